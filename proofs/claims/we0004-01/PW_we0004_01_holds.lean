import PyProof.Rows.All
import Wide.All
import OpenK.AllK
import Wide.FinOn
import PySem.Challenge.RW_we0004_01
open PySem PySem.Calls PySem.W PyProof.Rows
set_option Elab.async false
set_option maxRecDepth 100000
set_option maxHeartbeats 1000000
namespace Mine

/-! values without their tokens, and what the heap bears of them -/
/-- what the ints' tokens stand for, below a bound -/
structure TC where
  θ : Nat → Int
  b : Nat
def TC.le (x y : TC) : Prop := x.b ≤ y.b ∧ ∀ t, t < x.b → y.θ t = x.θ t
theorem TC.le.refl (x : TC) : TC.le x x := ⟨Nat.le_refl _, fun _ _ => rfl⟩
theorem TC.le.trans {x y z : TC} (h : TC.le x y) (k : TC.le y z) : TC.le x z := ⟨Nat.le_trans h.1 k.1, fun t ht => (k.2 t (Nat.lt_of_lt_of_le ht h.1)).trans (h.2 t ht)⟩
def TC.mk1 (x : TC) (t : Nat) (n : Int) : TC := ⟨fun u => if u = t then n else x.θ u, t + 1⟩
theorem TC.le.mk1 {x : TC} {t : Nat} (n : Int) (h : x.b ≤ t) : TC.le x (x.mk1 t n) :=
  ⟨Nat.le_succ_of_le h, fun u hu => by have : u ≠ t := Nat.ne_of_lt (Nat.lt_of_lt_of_le hu h); simp [TC.mk1, this]⟩
inductive CV where
  | i (n : Int) | w (n : Int) | b (b : Bool) | s (x : Str) | n | r (a : Addr)
def Is (τ : TC) : Value → CV → Prop
  | .int n t, .i m => n = m ∧ t ≠ 0 ∧ t < τ.b ∧ τ.θ t = n
  | .int n _, .w m => n = m
  | .bool b, .b c => b = c
  | .str x _, .s y => x = y
  | .none, .n => True
  | .ref a, .r c => a = c
  | _, _ => False
def intOf : CV → Option Int
  | .i n => some n
  | .w n => some n
  | _ => none
theorem rb {τ : TC} {b : Bool} : Is τ (.bool b) (.b b) := rfl
theorem rs {τ : TC} {x : Str} {t : Tok} : Is τ (.str x t) (.s x) := rfl
theorem rn {τ : TC} : Is τ .none .n := trivial
theorem rr {τ : TC} {a : Addr} : Is τ (.ref a) (.r a) := rfl
theorem rw {τ : TC} {n : Int} {t : Tok} : Is τ (.int n t) (.w n) := rfl
theorem Is.mono {τ τ' : TC} (h : TC.le τ τ') {v : Value} {c : CV} (x : Is τ v c) : Is τ' v c := by
  cases v <;> cases c <;> first | exact x | exact x.elim | skip
  obtain ⟨a, b, d, e⟩ := x
  exact ⟨a, b, Nat.lt_of_lt_of_le d h.1, (h.2 _ d).trans e⟩
theorem is_int {τ : TC} {v : Value} {c : CV} {n : Int} (h : Is τ v c) (hn : intOf c = some n) : ∃ t, v = .int n t := by
  cases c with
  | i m => cases v <;> first | exact h.elim | (cases hn; obtain ⟨rfl, _⟩ := h; exact ⟨_, rfl⟩)
  | w m => cases v <;> first | exact h.elim | (cases hn; cases (show _ = _ from h); exact ⟨_, rfl⟩)
  | _ => cases hn
theorem is_i {τ : TC} {v : Value} {n : Int} (h : Is τ v (.i n)) : ∃ t, v = .int n t ∧ t ≠ 0 ∧ t < τ.b ∧ τ.θ t = n := by
  cases v <;> first | exact h.elim | (obtain ⟨rfl, r⟩ := h; exact ⟨_, rfl, r⟩)
theorem is_b {τ : TC} {v : Value} {b : Bool} (h : Is τ v (.b b)) : v = .bool b := by
  cases v <;> first | exact h.elim | (cases (show _ = _ from h); rfl)
theorem is_s {τ : TC} {v : Value} {x : Str} (h : Is τ v (.s x)) : ∃ t, v = .str x t := by
  cases v <;> first | exact h.elim | (cases (show _ = _ from h); exact ⟨_, rfl⟩)
theorem is_n {τ : TC} {v : Value} (h : Is τ v .n) : v = .none := by
  cases v <;> first | exact h.elim | rfl
theorem is_r {τ : TC} {v : Value} {a : Addr} (h : Is τ v (.r a)) : v = .ref a := by
  cases v <;> first | exact h.elim | (cases (show _ = _ from h); rfl)

def AllIs (τ : TC) : List Value → List CV → Prop
  | [], [] => True
  | v :: vs, x :: xs => Is τ v x ∧ AllIs τ vs xs
  | _, _ => False
namespace AllIs
variable {τ : TC}
theorem mono {τ' : TC} (h : TC.le τ τ') : ∀ {vs : List Value} {xs : List CV}, AllIs τ vs xs → AllIs τ' vs xs
  | [], [], _ => trivial
  | _ :: _, _ :: _, x => ⟨x.1.mono h, mono h x.2⟩
  | [], _ :: _, x => x.elim
  | _ :: _, [], x => x.elim
theorem len : ∀ {vs : List Value} {xs : List CV}, AllIs τ vs xs → vs.length = xs.length
  | [], [], _ => rfl
  | _ :: _, _ :: _, x => congrArg Nat.succ (len x.2)
  | [], _ :: _, x => x.elim
  | _ :: _, [], x => x.elim
theorem get : ∀ {vs : List Value} {xs : List CV}, AllIs τ vs xs → ∀ {k : Nat} {x : CV}, xs[k]? = some x → ∃ v, vs[k]? = some v ∧ Is τ v x
  | _ :: _, _ :: _, h, 0, _, e => by simp at e; subst e; exact ⟨_, rfl, h.1⟩
  | _ :: _, _ :: _, h, k + 1, x, e => by simpa using get h.2 (k := k) (x := x) (by simpa using e)
  | [], [], _, _, _, e => by simp at e
  | [], _ :: _, x, _, _, _ => x.elim
  | _ :: _, [], x, _, _, _ => x.elim
theorem append : ∀ {vs us : List Value} {xs ys : List CV}, AllIs τ vs xs → AllIs τ us ys → AllIs τ (vs ++ us) (xs ++ ys)
  | [], _, [], _, _, h => h
  | _ :: _, _, _ :: _, _, x, h => ⟨x.1, append x.2 h⟩
  | [], _, _ :: _, _, x, _ => x.elim
  | _ :: _, _, [], _, x, _ => x.elim
theorem drop : ∀ {vs : List Value} {xs : List CV} (k : Nat), AllIs τ vs xs → AllIs τ (vs.drop k) (xs.drop k)
  | _, _, 0, h => h
  | [], [], _ + 1, _ => trivial
  | _ :: _, _ :: _, k + 1, h => drop k h.2
  | [], _ :: _, _ + 1, x => x.elim
  | _ :: _, [], _ + 1, x => x.elim
theorem take : ∀ {vs : List Value} {xs : List CV} (k : Nat), AllIs τ vs xs → AllIs τ (vs.take k) (xs.take k)
  | vs, xs, 0, _ => by simp [AllIs]
  | [], [], _ + 1, _ => trivial
  | _ :: _, _ :: _, k + 1, h => ⟨h.1, take k h.2⟩
  | [], _ :: _, _ + 1, x => x.elim
  | _ :: _, [], _ + 1, x => x.elim
theorem reverse : ∀ {vs : List Value} {xs : List CV}, AllIs τ vs xs → AllIs τ vs.reverse xs.reverse
  | [], [], _ => trivial
  | _ :: _, _ :: _, h => by
    rw [List.reverse_cons, List.reverse_cons]
    exact append (reverse h.2) ⟨h.1, trivial⟩
  | [], _ :: _, x => x.elim
  | _ :: _, [], x => x.elim
end AllIs

inductive CO where
  | list (xs : List CV) | tup (xs : List CV) | iter (l : Addr) (k : Nat)
abbrev H := Addr → Option CO
abbrev G := Str → Option CV
def upd (f : H) (a : Addr) (co : CO) : H := fun b => if b = a then some co else f b
def put (Γ : G) (x : Str) (v : CV) : G := fun y => if y = x then some v else Γ y
theorem upd_self (f : H) (a : Addr) (co : CO) : upd f a co a = some co := by simp [upd]
theorem upd_ne (f : H) {a b : Addr} (co : CO) (h : b ≠ a) : upd f a co b = f b := by simp [upd, h]
theorem upd_new {f : H} {a b : Addr} {co c : CO} (hb : f b = some c) (ha : f a = none) : upd f a co b = some c := by
  rw [upd_ne f co (by rintro rfl; rw [ha] at hb; cases hb)]; exact hb
theorem put_self (Γ : G) (x : Str) (v : CV) : put Γ x v x = some v := by simp [put]
theorem put_ne (Γ : G) {x y : Str} (v : CV) (h : y ≠ x) : put Γ x v y = Γ y := by simp [put, h]

def Holds (τ : TC) (h : Heap) (a : Addr) : CO → Prop
  | .list xs => ∃ vs : List Value, h.PlainList a vs.toArray ∧ AllIs τ vs xs
  | .tup xs => ∃ vs : List Value, IsTup h a vs.toArray ∧ AllIs τ vs xs
  | .iter l k => h.IsListIter a l k

theorem Holds.obj {τ : TC} {h : Heap} {a : Addr} {co : CO} (x : Holds τ h a co) : ∃ o, h.get? a = some o ∧ (∀ es n, o.data ≠ .dict es n) ∧ (∀ v, o.data ≠ .cell v) := by
  cases co with
  | list xs => obtain ⟨vs, ⟨n, ho⟩, _⟩ := x; exact ⟨_, ho, (fun _ _ e => nomatch e), (fun _ e => nomatch e)⟩
  | tup xs => obtain ⟨vs, ⟨o, ho, _, n, hd⟩, _⟩ := x; exact ⟨o, ho, by intro _ _ e; (rw [hd] at e; exact nomatch e), by intro _ e; (rw [hd] at e; exact nomatch e)⟩
  | iter l k => obtain ⟨o, ho, _, hd⟩ := x; exact ⟨o, ho, by intro _ _ e; (rw [hd] at e; exact nomatch e), by intro _ e; (rw [hd] at e; exact nomatch e)⟩
theorem Holds.mono {τ τ' : TC} {h h' : Heap} {a : Addr} {co : CO} (x : Holds τ h a co) (t : TC.le τ τ') (k : ∀ o, h.get? a = some o → h'.get? a = some o) : Holds τ' h' a co := by
  cases co with
  | list xs => obtain ⟨vs, ⟨n, ho⟩, e⟩ := x; exact ⟨vs, ⟨n, k _ ho⟩, e.mono t⟩
  | tup xs => obtain ⟨vs, ⟨o, ho, r⟩, e⟩ := x; exact ⟨vs, ⟨o, k o ho, r⟩, e.mono t⟩
  | iter l n => obtain ⟨o, ho, r⟩ := x; exact ⟨o, k o ho, r⟩

/-- what stays as it was, and the frames that stand (their slots may change) -/
structure BB where
  heap : Heap
  fs : List Addr
abbrev BB.get? (x : BB) (a : Addr) : Option Obj := x.heap.get? a
def BB.off (x : BB) (a : Addr) : Prop := x.get? a = none ∧ a ∉ x.fs
def BB.deep (x : BB) (a : Addr) : BB := ⟨x.heap, a :: x.fs⟩
def Like (o o' : Obj) : Prop := o'.data = o.data ∧ ((∀ es n, o.data ≠ .dict es n) → o' = o)
theorem Like.refl (o : Obj) : Like o o := ⟨rfl, fun _ => rfl⟩
theorem Like.trans {a b c : Obj} (x : Like a b) (y : Like b c) : Like a c :=
  ⟨y.1.trans x.1, fun h => by have e := x.2 h; subst e; exact y.2 h⟩
theorem like {h : Heap} {a : Addr} {o : Obj} (e : h.get? a = some o) : ∃ o', h.get? a = some o' ∧ Like o o' := ⟨o, e, .refl o⟩

structure Cur (hB : BB) (Hc : H) (τ : TC) (s : Shared) : Prop where
  pos : 1 ≤ τ.b
  top : τ.b ≤ s.toks
  base : ∀ b o, hB.get? b = some o → s.heap.get? b = some o
  bsep : ∀ b o, hB.get? b = some o → Hc b = none
  hok : ∀ a co, Hc a = some co → Holds τ s.heap a co
  fr : ∀ L ∈ hB.fs, ∃ o, s.heap.get? L = some o ∧ ∃ es n, o.data = .dict es n

structure Step (own : List Addr) (Hc H' : H) (τ τ' : TC) (s s' : Shared) : Prop where
  tc : TC.le τ τ'
  os : s'.os = s.os
  gens : ∀ (i : Nat) (x : GenState), s.gens[i]? = some x → s'.gens[i]? = some x
  bare : AllBare s.gens → AllBare s'.gens
  keep : ∀ b o, s.heap.get? b = some o → Hc b = none → b ∉ own → ∃ o', s'.heap.get? b = some o' ∧ Like o o'
  sep : ∀ b o, s.heap.get? b = some o → Hc b = none → H' b = none
  alive : ∀ b o, s.heap.get? b = some o → ∃ o', s'.heap.get? b = some o'

theorem Step.refl (own : List Addr) (Hc : H) (τ : TC) (s : Shared) : Step own Hc Hc τ τ s s := ⟨.refl _, rfl, fun _ _ h => h, fun h => h, fun _ _ h _ _ => like h, fun _ _ _ h => h, fun _ o h => ⟨o, h⟩⟩
theorem Step.toks (own : List Addr) (Hc : H) {τ τ' : TC} (h : TC.le τ τ') (s : Shared) (t : Nat) : Step own Hc Hc τ τ' s { s with toks := t } := ⟨h, rfl, fun _ _ h => h, fun h => h, fun _ _ h _ _ => like h, fun _ _ _ h => h, fun _ o h => ⟨o, h⟩⟩
theorem Step.trans {own own' : List Addr} {H0 H1 H2 : H} {τ0 τ1 τ2 : TC} {s0 s1 s2 : Shared} (x : Step own H0 H1 τ0 τ1 s0 s1) (y : Step own' H1 H2 τ1 τ2 s1 s2) (ho : ∀ b o, s0.heap.get? b = some o → b ∈ own' → b ∈ own) : Step own H0 H2 τ0 τ2 s0 s2 where
  tc := x.tc.trans y.tc
  os := y.os.trans x.os
  gens := fun i g h => y.gens i g (x.gens i g h)
  bare := fun h => y.bare (x.bare h)
  keep := fun b o h hn hb => let ⟨o1, e1, l1⟩ := x.keep b o h hn hb; let ⟨o2, e2, l2⟩ := y.keep b o1 e1 (x.sep b o h hn) fun q => hb (ho b o h q); ⟨o2, e2, l1.trans l2⟩
  sep := fun b o h hn => let ⟨o', e⟩ := x.alive b o h; y.sep b o' e (x.sep b o h hn)
  alive := fun b o h => let ⟨o', e⟩ := x.alive b o h; y.alive b o' e
theorem Step.trans0 {own' : List Addr} {H0 H1 H2 : H} {τ0 τ1 τ2 : TC} {s0 s1 s2 : Shared} (x : Step [] H0 H1 τ0 τ1 s0 s1) (y : Step own' H1 H2 τ1 τ2 s1 s2) : Step own' H0 H2 τ0 τ2 s0 s2 where
  tc := x.tc.trans y.tc
  os := y.os.trans x.os
  gens := fun i g h => y.gens i g (x.gens i g h)
  bare := fun h => y.bare (x.bare h)
  keep := fun b o h hn hb => let ⟨o1, e1, l1⟩ := x.keep b o h hn (by simp); let ⟨o2, e2, l2⟩ := y.keep b o1 e1 (x.sep b o h hn) hb; ⟨o2, e2, l1.trans l2⟩
  sep := fun b o h hn => let ⟨o1, e1, _⟩ := x.keep b o h hn (by simp); y.sep b o1 e1 (x.sep b o h hn)
  alive := fun b o h => let ⟨o', e⟩ := x.alive b o h; y.alive b o' e
/-- what is not alive at the start need not be named -/
theorem Step.drop {own : List Addr} {H0 H1 : H} {τ0 τ1 : TC} {s0 s1 : Shared} (x : Step own H0 H1 τ0 τ1 s0 s1) (hd : ∀ a ∈ own, s0.heap.get? a = none) : Step [] H0 H1 τ0 τ1 s0 s1 where
  tc := x.tc
  os := x.os
  gens := x.gens
  bare := x.bare
  keep := fun b o h hn _ => x.keep b o h hn fun q => by rw [hd b q] at h; cases h
  sep := x.sep
  alive := x.alive
theorem Step.wide {own own' : List Addr} {H0 H1 : H} {τ0 τ1 : TC} {s0 s1 : Shared} (x : Step own H0 H1 τ0 τ1 s0 s1) (h : ∀ a ∈ own, a ∈ own') : Step own' H0 H1 τ0 τ1 s0 s1 :=
  ⟨x.tc, x.os, x.gens, x.bare, fun b o e hn hb => x.keep b o e hn fun q => hb (h b q), x.sep, x.alive⟩

/-- what is no namespace stays whole -/
theorem Step.keepS {own : List Addr} {H0 H1 : H} {τ0 τ1 : TC} {s0 s1 : Shared} (x : Step own H0 H1 τ0 τ1 s0 s1) (b : Addr) (o : Obj) (e : s0.heap.get? b = some o) (nd : ∀ es n, o.data ≠ .dict es n) (hn : H0 b = none) (hb : b ∉ own) : s1.heap.get? b = some o := by
  obtain ⟨o', e', l⟩ := x.keep b o e hn hb
  rw [e', l.2 nd]
theorem plain_at {h h' : Heap} {a : Addr} {items : Array Value} (x : h.PlainList a items) (k : ∀ o, h.get? a = some o → (∀ es n, o.data ≠ .dict es n) → h'.get? a = some o) : h'.PlainList a items :=
  let ⟨n, e⟩ := x; ⟨n, k _ e (by intro _ _ e; cases e)⟩
theorem ns_like {h h' : Heap} {a : Addr} {m : Str → Option Value} (k : ∀ o, h.get? a = some o → ∃ o', h'.get? a = some o' ∧ Like o o') (hn : h.Ns a m) : h'.Ns a m := by
  obtain ⟨o, es, ep, ho, hd, r⟩ := hn
  obtain ⟨o', e', l⟩ := k o ho
  exact ⟨o', es, ep, e', l.1.trans hd, r⟩

def ownOf (env : Env) : List Addr := env.locals :: env.cells.map (·.2)
structure EnvAt (hB : BB) (env : Env) (Γ : G) (τ : TC) (s : Shared) : Prop where
  fn : env.scope.kind = .function
  glo : env.globals = mainGlobals
  bui : env.builtins = builtinsNs
  new : ∀ a ∈ ownOf env, hB.get? a = none
  apart : ∀ x y c, env.cells.lookup x = some c → env.cells.lookup y = some c → x = y
  loc : ∃ m, s.heap.Ns env.locals m ∧ ∀ x cv, env.kindOf x = some .local → Γ x = some cv → ∃ v, m x = some v ∧ Is τ v cv
  cell : ∀ x, env.kindOf x = some .cell → ∃ c v, env.cells.lookup x = some c ∧ s.heap.IsCell c v ∧ ∀ cv, Γ x = some cv → ∃ w, v = some w ∧ Is τ w cv
  cells : ∀ x c, (x, c) ∈ env.cells → ∃ v, s.heap.IsCell c v

theorem Cur.notDict {hB : BB} {Hc : H} {τ : TC} {s : Shared} (C : Cur hB Hc τ s) {a : Addr} {m : Str → Option Value} (h : s.heap.Ns a m) : Hc a = none := by
  cases e : Hc a with
  | none => rfl
  | some co =>
    obtain ⟨o, ho, hd, _⟩ := (C.hok a co e).obj
    obtain ⟨o', es, ep, ho', hd', _⟩ := h
    rw [ho] at ho'; cases ho'; exact absurd hd' (hd _ _)
theorem Cur.notCell {hB : BB} {Hc : H} {τ : TC} {s : Shared} (C : Cur hB Hc τ s) {a : Addr} {v : Option Value} (h : s.heap.IsCell a v) : Hc a = none := by
  cases e : Hc a with
  | none => rfl
  | some co =>
    obtain ⟨o, ho, _, hd⟩ := (C.hok a co e).obj
    obtain ⟨o', ho', hd'⟩ := h
    rw [ho] at ho'; cases ho'; exact absurd hd' (hd _)
theorem Cur.new {hB : BB} {Hc : H} {τ : TC} {s : Shared} (C : Cur hB Hc τ s) {a : Addr} (h : s.heap.get? a = none) : Hc a = none := by
  cases e : Hc a with
  | none => rfl
  | some co => obtain ⟨o, ho, _⟩ := (C.hok a co e).obj; rw [h] at ho; cases ho
theorem fresh_none (h : Heap) : h.get? h.objs.size = none := by
  cases e : h.get? h.objs.size with
  | none => rfl
  | some o => exact absurd (Heap.lt_size e) (Nat.lt_irrefl _)

theorem EnvAt.keeps {hB : BB} {env : Env} {Γ : G} {τ τ' : TC} {s s' : Shared} (X : EnvAt hB env Γ τ s) (ht : TC.le τ τ') (hk : ∀ a ∈ ownOf env, ∀ o, s.heap.get? a = some o → ∃ o', s'.heap.get? a = some o' ∧ Like o o') : EnvAt hB env Γ τ' s' where
  fn := X.fn
  glo := X.glo
  bui := X.bui
  new := X.new
  apart := X.apart
  loc := by
    obtain ⟨m, hn, hm⟩ := X.loc
    exact ⟨m, ns_like (hk _ (List.mem_cons_self ..)) hn, fun x cv hk hx => let ⟨v, a, b⟩ := hm x cv hk hx; ⟨v, a, b.mono ht⟩⟩
  cell := fun x hx => by
    obtain ⟨c, v, hc, ⟨o, ho, hd⟩, h⟩ := X.cell x hx
    obtain ⟨o', ho', l⟩ := hk c (List.mem_cons_of_mem _ (List.mem_map.mpr ⟨_, mem_of_lookup hc, rfl⟩)) o ho
    exact ⟨c, v, hc, ⟨o', ho', l.1.trans hd⟩, fun cv e => let ⟨w, a, b⟩ := h cv e; ⟨w, a, b.mono ht⟩⟩
  cells := fun x c hc => by
    obtain ⟨v, o, ho, hd⟩ := X.cells x c hc
    obtain ⟨o', ho', l⟩ := hk c (List.mem_cons_of_mem _ (List.mem_map.mpr ⟨_, hc, rfl⟩)) o ho
    exact ⟨v, o', ho', l.1.trans hd⟩
theorem EnvAt.none {hB : BB} {Hc : H} {env : Env} {Γ : G} {τ τ' : TC} {s : Shared} (X : EnvAt hB env Γ τ s) (C : Cur hB Hc τ' s) : ∀ a ∈ ownOf env, Hc a = none := by
  intro a ha
  rcases List.mem_cons.mp ha with rfl | ha
  · obtain ⟨m, hn, _⟩ := X.loc; exact C.notDict hn
  · obtain ⟨⟨x, c⟩, hp, rfl⟩ := List.mem_map.mp ha
    obtain ⟨v, hv⟩ := X.cells x c hp
    exact C.notCell hv
theorem EnvAt.alive {hB : BB} {env : Env} {Γ : G} {τ : TC} {s : Shared} (X : EnvAt hB env Γ τ s) : ∀ a ∈ ownOf env, ∃ o, s.heap.get? a = some o := by
  intro a ha
  rcases List.mem_cons.mp ha with rfl | ha
  · obtain ⟨m, ⟨o, _, _, ho, _⟩, _⟩ := X.loc; exact ⟨o, ho⟩
  · obtain ⟨⟨x, c⟩, hp, rfl⟩ := List.mem_map.mp ha
    obtain ⟨v, o, ho, _⟩ := X.cells x c hp
    exact ⟨o, ho⟩
theorem EnvAt.step {hB : BB} {Hc H' : H} {env : Env} {Γ : G} {τ τ' : TC} {s s' : Shared} (X : EnvAt hB env Γ τ s) (C : Cur hB Hc τ s) (S : Step [] Hc H' τ τ' s s') : EnvAt hB env Γ τ' s' :=
  X.keeps S.tc fun a ha o e => S.keep a o e (X.none C a ha) (by simp)

def Post (hB : BB) (Hc : H) (τ : TC) (s : Shared) (P : CV → H → Prop) (v : Value) (s' : Shared) : Prop := ∃ cv H' τ', Is τ' v cv ∧ Cur hB H' τ' s' ∧ Step [] Hc H' τ τ' s s' ∧ P cv H'
theorem Post.step {hB : BB} {H0 H1 : H} {τ0 τ1 : TC} {s0 s1 s' : Shared} {P : CV → H → Prop} {v : Value} (S : Step [] H0 H1 τ0 τ1 s0 s1) (p : Post hB H1 τ1 s1 P v s') : Post hB H0 τ0 s0 P v s' :=
  let ⟨cv, H', τ', a, b, c, d⟩ := p; ⟨cv, H', τ', a, b, S.trans0 c, d⟩
theorem Post.mono {hB : BB} {H0 : H} {τ0 : TC} {s0 s' : Shared} {P P' : CV → H → Prop} {v : Value} (p : Post hB H0 τ0 s0 P v s') (h : ∀ cv H', P cv H' → P' cv H') : Post hB H0 τ0 s0 P' v s' :=
  let ⟨cv, H', τ', a, b, c, d⟩ := p; ⟨cv, H', τ', a, b, c, h _ _ d⟩
theorem Cur.toks {hB : BB} {Hc : H} {τ τ' : TC} {s : Shared} (C : Cur hB Hc τ s) (h : TC.le τ τ') {t : Nat} (ht : τ'.b ≤ t) : Cur hB Hc τ' { s with toks := t } :=
  ⟨Nat.le_trans C.pos h.1, ht, C.base, C.bsep, fun a co e => (C.hok a co e).mono h fun _ x => x, C.fr⟩
/-- a value that is not a fresh int -/
theorem Post.here {hB : BB} {Hc : H} {τ : TC} {s : Shared} {P : CV → H → Prop} {v : Value} {cv : CV} (hv : Is τ v cv) (C : Cur hB Hc τ s) (p : P cv Hc) {t : Nat} (ht : s.toks ≤ t) : Post hB Hc τ s P v { s with toks := t } :=
  ⟨cv, Hc, τ, hv, C.toks (.refl _) (Nat.le_trans C.top ht), Step.toks _ _ (.refl _) _ _, p⟩
/-- a fresh int -/
theorem Post.int {hB : BB} {Hc : H} {τ : TC} {s : Shared} {P : CV → H → Prop} {n : Int} (C : Cur hB Hc τ s) (p : P (.i n) Hc) {u t : Nat} (hu : s.toks ≤ u) (ht : u < t) : Post hB Hc τ s P (.int n u) { s with toks := t } := by
  have hle := TC.le.mk1 (x := τ) n (Nat.le_trans C.top hu)
  exact ⟨.i n, Hc, τ.mk1 u n, ⟨rfl, Nat.ne_of_gt (Nat.lt_of_lt_of_le C.pos (Nat.le_trans C.top hu)), Nat.lt_succ_self _, by simp [TC.mk1]⟩, C.toks hle ht, Step.toks _ _ hle _ _, p⟩

section
variable (prog : Program) (w : World) (hB : BB)
/-- an expression's tree: whatever the state, its value and the lists behind it are as P says; it raises nothing -/
def Ev (A : Around) (env : Env) (t : Sem Value) (Γ : G) (Hc : H) (P : CV → H → Prop) : Prop :=
  ∀ (τ : TC) (s : Shared) (E : Value → Shared → Prop), Cur hB Hc τ s → EnvAt hB env Γ τ s → wpAny (model prog w) A t (Post hB Hc τ s P) E s
def PostB (Hc : H) (τ : TC) (s : Shared) (P : Bool → H → Prop) (v : Bool) (s' : Shared) : Prop := ∃ H' τ', Cur hB H' τ' s' ∧ Step [] Hc H' τ τ' s s' ∧ P v H'
def Tr (A : Around) (env : Env) (t : Sem Bool) (Γ : G) (Hc : H) (P : Bool → H → Prop) : Prop :=
  ∀ (τ : TC) (s : Shared) (E : Value → Shared → Prop), Cur hB Hc τ s → EnvAt hB env Γ τ s → wpAny (model prog w) A t (PostB hB Hc τ s P) E s
/-- a tree that asks no frame -/
def Op (A : Around) (t : Sem Value) (Hc : H) (τ : TC) (P : CV → H → Prop) : Prop :=
  ∀ (s : Shared) (E : Value → Shared → Prop), Cur hB Hc τ s → wpAny (model prog w) A t (Post hB Hc τ s P) E s
inductive CF where
  | next | brk | cont | ret (v : CV)
def IsF (τ : TC) : Flow → CF → Prop
  | .next, .next => True
  | .brk, .brk => True
  | .cont, .cont => True
  | .ret v, .ret c => Is τ v c
  | _, _ => False
def PostX (env : Env) (Hc : H) (τ : TC) (s : Shared) (Q : CF → G → H → Prop) (f : Flow) (s' : Shared) : Prop :=
  ∃ cf Γ' H' τ', IsF τ' f cf ∧ Cur hB H' τ' s' ∧ EnvAt hB env Γ' τ' s' ∧ Step (ownOf env) Hc H' τ τ' s s' ∧ Q cf Γ' H'
def Ex (A : Around) (env : Env) (t : Sem Flow) (Γ : G) (Hc : H) (Q : CF → G → H → Prop) : Prop :=
  ∀ (τ : TC) (s : Shared) (E : Value → Shared → Prop), Cur hB Hc τ s → EnvAt hB env Γ τ s → wpAny (model prog w) A t (PostX hB env Hc τ s Q) E s
end

end Mine

set_option maxRecDepth 100000
set_option maxHeartbeats 1000000
namespace Mine
section
variable {prog : Program} {w : World} {hB : BB} {A : Around} {env : Env} {Γ : G} {Hc : H}

theorem Ev.mono {t : Sem Value} {P P' : CV → H → Prop} (h : Ev prog w hB A env t Γ Hc P) (hp : ∀ cv H', P cv H' → P' cv H') : Ev prog w hB A env t Γ Hc P' :=
  fun τ s E C X => wpAny_mono (h τ s E C X) (fun _ _ p => p.mono hp) fun _ _ e => e
theorem Ev.ofOp {t : Sem Value} {P : CV → H → Prop} (h : ∀ τ, Op prog w hB A t Hc τ P) : Ev prog w hB A env t Γ Hc P := fun τ s E C _ => h τ s E C

theorem Ev.name {x : Str} {pos : Pos} {cv : CV} {P : CV → H → Prop} (hx : Γ x = some cv) (hk : env.kindOf x = some .local ∨ env.kindOf x = some .cell) (h : P cv Hc)
    (hd : (x == ("__debug__" : Str)) = false := by decide) : Ev prog w hB A env (eval (.Name x pos) env) Γ Hc P := by
  intro τ s E C X
  refine wpAny_Name ?_ hd
  rcases hk with hk | hk
  · obtain ⟨m, hn, hm⟩ := X.loc
    obtain ⟨v, hv, hc⟩ := hm x cv hk hx
    exact wpAny_loadName_local X.fn hk hn hv (Post.here hc C h (Nat.le_refl _))
  · obtain ⟨c, v, hc, hi, hm⟩ := X.cell x hk
    obtain ⟨v', rfl, hv⟩ := hm cv hx
    exact wpAny_loadName_cell X.fn hk hc hi (Post.here hv C h (Nat.le_refl _))
theorem Ev.int {i : Int} {k : Nat} {pos : Pos} {P : CV → H → Prop} (h : P (.i i) Hc) : Ev prog w hB A env (eval (.Constant (.int i) k pos) env) Γ Hc P :=
  fun _ s _ C _ => wpAny_Constant_int (Post.int C h (Nat.le_refl _) (Nat.lt_succ_self _))
theorem Ev.str {x : Str} {k : Nat} {pos : Pos} {P : CV → H → Prop} (h : P (.s x) Hc) : Ev prog w hB A env (eval (.Constant (.str x) k pos) env) Γ Hc P :=
  fun _ s _ C _ => wpAny_Constant_str (Post.here rs C h (Nat.le_succ _))
theorem Ev.bool {b : Bool} {k : Nat} {pos : Pos} {P : CV → H → Prop} (h : P (.b b) Hc) : Ev prog w hB A env (eval (.Constant (.bool b) k pos) env) Γ Hc P :=
  fun _ s _ C _ => wpAny_Constant_bool (Post.here rb C h (Nat.le_refl _))
theorem Ev.cNone {k : Nat} {pos : Pos} {P : CV → H → Prop} (h : P .n Hc) : Ev prog w hB A env (eval (.Constant .none k pos) env) Γ Hc P :=
  fun _ s _ C _ => wpAny_Constant_none (Post.here rn C h (Nat.le_refl _))

/-- an operator upon two clean values -/
def Op2 (prog : Program) (w : World) (hB : BB) (A : Around) (f : Value → Value → Sem Value) (a b : CV) (Hc : H) (P : CV → H → Prop) : Prop :=
  ∀ τ va vb, Is τ va a → Is τ vb b → Op prog w hB A (f va vb) Hc τ P

theorem Ev.two {l r : Sem Value} {f : Value → Value → Sem Value} {P : CV → H → Prop}
    (h : Ev prog w hB A env l Γ Hc fun a H1 => Ev prog w hB A env r Γ H1 fun b H2 => Op2 prog w hB A f a b H2 P) (τ : TC) (s : Shared) (E : Value → Shared → Prop) (C : Cur hB Hc τ s) (X : EnvAt hB env Γ τ s) :
    wpAny (model prog w) A l (fun a s1 => wpAny (model prog w) A r (fun b s2 => wpAny (model prog w) A (f a b) (Post hB Hc τ s P) E s2) E s1) E s := by
  refine wpAny_mono (h τ s E C X) (fun va s1 ⟨a, H1, τ1, ha, C1, S1, k⟩ => ?_) fun _ _ e => e
  refine wpAny_mono (k τ1 s1 E C1 (X.step C S1)) (fun vb s2 ⟨b, H2, τ2, hb, C2, S2, k⟩ => ?_) fun _ _ e => e
  exact wpAny_mono (k τ2 va vb (ha.mono S2.tc) hb s2 E C2) (fun _ _ p => p.step (S1.trans0 S2)) fun _ _ e => e

theorem Ev.binop {l r : Expr} {op : Operator} {pos : Pos} {P : CV → H → Prop}
    (h : Ev prog w hB A env (eval l env) Γ Hc fun a H1 => Ev prog w hB A env (eval r env) Γ H1 fun b H2 => Op2 prog w hB A (binaryOp op) a b H2 P) :
    Ev prog w hB A env (eval (.BinOp l op r pos) env) Γ Hc P := fun τ s E C X => wpAny_BinOp (Ev.two h τ s E C X)
theorem Ev.compare {l r : Expr} {op : CmpOp} {pos : Pos} {P : CV → H → Prop}
    (h : Ev prog w hB A env (eval l env) Γ Hc fun a H1 => Ev prog w hB A env (eval r env) Γ H1 fun b H2 => Op2 prog w hB A (compareOp op) a b H2 P)
    (hm : behindInMarks op r = false := by with_unfolding_all rfl) :
    Ev prog w hB A env (eval (.Compare l [op] [r] pos) env) Γ Hc P := fun τ s E C X => wpAny_Compare1 (Ev.two h τ s E C X) hm

theorem Op2.ints {f : Value → Value → Sem Value} {ca cb : CV} {a b c : Int} {P : CV → H → Prop} (ha : intOf ca = some a) (hb : intOf cb = some b) (h : P (.i c) Hc)
    (r : ∀ (t u : Tok) (s : Shared) (E : Value → Shared → Prop) (Q : Value → Shared → Prop), Q (.int c s.toks) { s with toks := s.toks + 1 } → wpAny (model prog w) A (f (.int a t) (.int b u)) Q E s) :
    Op2 prog w hB A f ca cb Hc P := by
  intro τ va vb ha' hb' s E C
  obtain ⟨t, rfl⟩ := is_int ha' ha
  obtain ⟨u, rfl⟩ := is_int hb' hb
  exact r t u s E _ (Post.int C h (Nat.le_refl _) (Nat.lt_succ_self _))
section
variable {ca cb : CV} {a b : Int} {P : CV → H → Prop}
theorem Op2.addi (h : P (.i (a + b)) Hc) (ha : intOf ca = some a := by rfl) (hb : intOf cb = some b := by rfl) : Op2 prog w hB A (binaryOp .Add) ca cb Hc P := Op2.ints ha hb h fun _ _ _ _ _ k => PyProof.Rows.add_int k
theorem Op2.subi (h : P (.i (a - b)) Hc) (ha : intOf ca = some a := by rfl) (hb : intOf cb = some b := by rfl) : Op2 prog w hB A (binaryOp .Sub) ca cb Hc P := Op2.ints ha hb h fun _ _ _ _ _ k => PyProof.Rows.sub_int k
theorem Op2.muli (hm : IntMulOk a b) (h : P (.i (a * b)) Hc) (ha : intOf ca = some a := by rfl) (hb : intOf cb = some b := by rfl) : Op2 prog w hB A (binaryOp .Mult) ca cb Hc P := Op2.ints ha hb h fun _ _ _ _ _ k => PyProof.Rows.mul_int k hm
theorem Op2.divi (h0 : b ≠ 0) (hp : Builtin.divisionGoesByPylong a b = false) (h : P (.i (a.fdiv b)) Hc) (ha : intOf ca = some a := by rfl) (hb : intOf cb = some b := by rfl) : Op2 prog w hB A (binaryOp .FloorDiv) ca cb Hc P :=
  Op2.ints ha hb h fun _ _ _ _ _ k => PyProof.Rows.floordiv_int h0 k (.inl hp)
theorem Op2.modi (h0 : b ≠ 0) (h : P (.i (a.fmod b)) Hc) (ha : intOf ca = some a := by rfl) (hb : intOf cb = some b := by rfl) : Op2 prog w hB A (binaryOp .Mod) ca cb Hc P := Op2.ints ha hb h fun _ _ _ _ _ k => PyProof.Rows.mod_int' h0 k
theorem Op2.andi (h : P (.i (Builtin.bitAnd a b)) Hc) (ha : intOf ca = some a := by rfl) (hb : intOf cb = some b := by rfl) : Op2 prog w hB A (binaryOp .BitAnd) ca cb Hc P := Op2.ints ha hb h fun _ _ _ _ _ k => PyProof.Rows.and_int k
theorem Op2.xori (h : P (.i (Builtin.bitXor a b)) Hc) (ha : intOf ca = some a := by rfl) (hb : intOf cb = some b := by rfl) : Op2 prog w hB A (binaryOp .BitXor) ca cb Hc P := Op2.ints ha hb h fun _ _ _ _ _ k => PyProof.Rows.xor_int k
theorem Op2.shri (h0 : 0 ≤ b) (h : P (.i (a.fdiv (2 ^ b.toNat))) Hc) (ha : intOf ca = some a := by rfl) (hb : intOf cb = some b := by rfl) : Op2 prog w hB A (binaryOp .RShift) ca cb Hc P := Op2.ints ha hb h fun _ _ _ _ _ k => PyProof.Rows.rshift_int h0 k
theorem Op2.powi (h0 : 0 ≤ b) (hz : (Builtin.Int.intBits a : Int) * b ≤ 2 ^ 27) (h : P (.i (a ^ b.toNat)) Hc) (ha : intOf ca = some a := by rfl) (hb : intOf cb = some b := by rfl) : Op2 prog w hB A (binaryOp .Pow) ca cb Hc P :=
  Op2.ints ha hb h fun _ _ _ _ _ k => PyProof.Rows.pow_int h0 hz k
end

theorem Op2.cmps {f : Value → Value → Sem Value} {ca cb : CV} {a b : Int} {c : Bool} {P : CV → H → Prop} (ha : intOf ca = some a) (hb : intOf cb = some b) (h : P (.b c) Hc)
    (r : ∀ (t u : Tok) (s : Shared) (E : Value → Shared → Prop) (Q : Value → Shared → Prop), Q (.bool c) s → wpAny (model prog w) A (f (.int a t) (.int b u)) Q E s) :
    Op2 prog w hB A f ca cb Hc P := by
  intro τ va vb ha' hb' s E C
  obtain ⟨t, rfl⟩ := is_int ha' ha
  obtain ⟨u, rfl⟩ := is_int hb' hb
  exact r t u s E _ (Post.here rb C h (Nat.le_refl _))
section
variable {ca cb : CV} {a b : Int} {P : CV → H → Prop}
theorem Op2.eqi (h : P (.b (a == b)) Hc) (ha : intOf ca = some a := by rfl) (hb : intOf cb = some b := by rfl) : Op2 prog w hB A (compareOp .Eq) ca cb Hc P := Op2.cmps ha hb h fun _ _ _ _ _ k => PyProof.Rows.eq_int k
theorem Op2.nei (h : P (.b (a != b)) Hc) (ha : intOf ca = some a := by rfl) (hb : intOf cb = some b := by rfl) : Op2 prog w hB A (compareOp .NotEq) ca cb Hc P := Op2.cmps ha hb h fun _ _ _ _ _ k => PyProof.Rows.ne_int k
theorem Op2.lti (h : P (.b (decide (a < b))) Hc) (ha : intOf ca = some a := by rfl) (hb : intOf cb = some b := by rfl) : Op2 prog w hB A (compareOp .Lt) ca cb Hc P := Op2.cmps ha hb h fun _ _ _ _ _ k => PyProof.Rows.lt_int k
theorem Op2.gti (h : P (.b (decide (b < a))) Hc) (ha : intOf ca = some a := by rfl) (hb : intOf cb = some b := by rfl) : Op2 prog w hB A (compareOp .Gt) ca cb Hc P := Op2.cmps ha hb h fun _ _ _ _ _ k => PyProof.Rows.gt_int k
end
theorem Op2.strs {f : Value → Value → Sem Value} {x y : Str} {c : Bool} {P : CV → H → Prop} (h : P (.b c) Hc)
    (r : ∀ (t u : Tok) (s : Shared) (E : Value → Shared → Prop) (Q : Value → Shared → Prop), Q (.bool c) s → wpAny (model prog w) A (f (.str x t) (.str y u)) Q E s) :
    Op2 prog w hB A f (.s x) (.s y) Hc P := by
  intro τ va vb ha hb s E C
  obtain ⟨t, rfl⟩ := is_s ha
  obtain ⟨u, rfl⟩ := is_s hb
  exact r t u s E _ (Post.here rb C h (Nat.le_refl _))
theorem Op2.eqs {x y : Str} {P : CV → H → Prop} (h : P (.b (x == y)) Hc) : Op2 prog w hB A (compareOp .Eq) (.s x) (.s y) Hc P := Op2.strs h fun _ _ _ _ _ k => PyProof.Rows.eq_str k
theorem Op2.bools {f : Value → Value → Sem Value} {x y : Bool} {c : Bool} {P : CV → H → Prop} (h : P (.b c) Hc)
    (r : ∀ (s : Shared) (E : Value → Shared → Prop) (Q : Value → Shared → Prop), Q (.bool c) s → wpAny (model prog w) A (f (.bool x) (.bool y)) Q E s) :
    Op2 prog w hB A f (.b x) (.b y) Hc P := by
  intro τ va vb ha hb s E C
  rw [is_b ha, is_b hb]
  exact r s E _ (Post.here rb C h (Nat.le_refl _))
theorem Op2.isNotb {x y : Bool} {P : CV → H → Prop} (h : P (.b (x != y)) Hc) : Op2 prog w hB A (compareOp .IsNot) (.b x) (.b y) Hc P :=
  Op2.bools h fun s E Q k => wpAny_isNot_plain rfl (by cases x <;> cases y <;> exact k)
theorem Op2.neb {x y : Bool} {P : CV → H → Prop} (h : P (.b (x != y)) Hc) : Op2 prog w hB A (compareOp .NotEq) (.b x) (.b y) Hc P :=
  Op2.bools h fun s E Q k => PyProof.Rows.ne_bool k

/-! tests -/
theorem Tr.ofEv {e : Expr} {P : Bool → H → Prop} (h : Ev prog w hB A env (eval e env) Γ Hc fun v H1 => ∃ b, v = .b b ∧ P b H1)
    (he : isTrue e env (eval e env) = (do let v ← eval e env; standAt e.pos; holding [v] (truthy v)) := by rfl) : Tr prog w hB A env (isTrue e env (eval e env)) Γ Hc P := by
  intro τ s E C X
  refine wpAny_isTrue_value (wpAny_mono (h τ s E C X) (fun v s1 ⟨cv, H1, τ1, hv, C1, S1, b, e, p⟩ => ?_) fun _ _ e => e) he
  subst e
  rw [is_b hv]
  exact wpAny_truthy_bool ⟨H1, τ1, C1, S1, p⟩
theorem Tr.compare {l r : Expr} {op : CmpOp} {pos : Pos} {whole : Sem Value} {P : Bool → H → Prop}
    (h : Ev prog w hB A env (eval l env) Γ Hc fun a H1 => Ev prog w hB A env (eval r env) Γ H1 fun b H2 => Op2 prog w hB A (compareOp op) a b H2 fun v H3 => ∃ b, v = .b b ∧ P b H3)
    (hm : behindInMarks op r = false := by with_unfolding_all rfl) :
    Tr prog w hB A env (isTrue (.Compare l [op] [r] pos) env whole) Γ Hc P := by
  intro τ s E C X
  refine wpAny_isTrue_Compare1 ?_ hm
  refine wpAny_mono (Ev.two h τ s E C X) (fun a s1 k => wpAny_mono k (fun b s2 k => wpAny_mono k (fun v s3 ⟨cv, H3, τ3, hv, C3, S3, b, e, p⟩ => ?_) fun _ _ e => e) fun _ _ e => e) fun _ _ e => e
  subst e
  rw [is_b hv]
  exact wpAny_truthy_bool ⟨H3, τ3, C3, S3, p⟩
theorem PostB.step {H0 H1 : H} {τ0 τ1 : TC} {s0 s1 s' : Shared} {P : Bool → H → Prop} {v : Bool} (S : Step [] H0 H1 τ0 τ1 s0 s1) (p : PostB hB H1 τ1 s1 P v s') : PostB hB H0 τ0 s0 P v s' :=
  let ⟨H', τ', b, c, d⟩ := p; ⟨H', τ', b, S.trans0 c, d⟩
theorem Tr.and {x y : Expr} {pos : Pos} {whole : Sem Value} {P : Bool → H → Prop}
    (h : Tr prog w hB A env (isTrue x env (eval x env)) Γ Hc fun b H1 => if b then Tr prog w hB A env (isTrue y env (eval y env)) Γ H1 P else P false H1) :
    Tr prog w hB A env (isTrue (.BoolOp .And [x, y] pos) env whole) Γ Hc P := by
  intro τ s E C X
  refine wpAny_isTrue_BoolOp (wpAny_allTrue_And_cons (wpAny_mono (h τ s E C X) (fun b s1 ⟨H1, τ1, C1, S1, p⟩ => ?_) fun _ _ e => e))
  cases b with
  | false => exact ⟨H1, τ1, C1, S1, p⟩
  | true =>
    refine wpAny_allTrue_And_cons (wpAny_mono (p τ1 s1 E C1 (X.step C S1)) (fun b s2 q => ?_) fun _ _ e => e)
    cases b with
    | false => exact q.step S1
    | true => exact wpAny_allTrue_And_nil (q.step S1)
theorem Tr.or {x y : Expr} {pos : Pos} {whole : Sem Value} {P : Bool → H → Prop}
    (h : Tr prog w hB A env (isTrue x env (eval x env)) Γ Hc fun b H1 => if b then P true H1 else Tr prog w hB A env (isTrue y env (eval y env)) Γ H1 P) :
    Tr prog w hB A env (isTrue (.BoolOp .Or [x, y] pos) env whole) Γ Hc P := by
  intro τ s E C X
  refine wpAny_isTrue_BoolOp (wpAny_allTrue_Or_cons (wpAny_mono (h τ s E C X) (fun b s1 ⟨H1, τ1, C1, S1, p⟩ => ?_) fun _ _ e => e))
  cases b with
  | true => exact ⟨H1, τ1, C1, S1, p⟩
  | false =>
    refine wpAny_allTrue_Or_cons (wpAny_mono (p τ1 s1 E C1 (X.step C S1)) (fun b s2 q => ?_) fun _ _ e => e)
    cases b with
    | true => exact q.step S1
    | false => exact wpAny_allTrue_Or_nil (q.step S1)
theorem Tr.and3 {x y z : Expr} {pos : Pos} {whole : Sem Value} {P : Bool → H → Prop}
    (h : Tr prog w hB A env (isTrue x env (eval x env)) Γ Hc fun b H1 => if b then Tr prog w hB A env (isTrue y env (eval y env)) Γ H1 (fun b H2 => if b then Tr prog w hB A env (isTrue z env (eval z env)) Γ H2 P else P false H2) else P false H1) :
    Tr prog w hB A env (isTrue (.BoolOp .And [x, y, z] pos) env whole) Γ Hc P := by
  intro τ s E C X
  refine wpAny_isTrue_BoolOp (wpAny_allTrue_And_cons (wpAny_mono (h τ s E C X) (fun b s1 ⟨H1, τ1, C1, S1, p⟩ => ?_) fun _ _ e => e))
  cases b with
  | false => exact ⟨H1, τ1, C1, S1, p⟩
  | true =>
    refine wpAny_allTrue_And_cons (wpAny_mono (p τ1 s1 E C1 (X.step C S1)) (fun b s2 ⟨H2, τ2, C2, S2, q⟩ => ?_) fun _ _ e => e)
    cases b with
    | false => exact ⟨H2, τ2, C2, S1.trans0 S2, q⟩
    | true =>
      refine wpAny_allTrue_And_cons (wpAny_mono (q τ2 s2 E C2 (X.step C (S1.trans0 S2))) (fun b s3 q => ?_) fun _ _ e => e)
      cases b with
      | false => exact q.step (S1.trans0 S2)
      | true => exact wpAny_allTrue_And_nil (q.step (S1.trans0 S2))
theorem Ev.ifexp {test body orelse : Expr} {pos : Pos} {P : CV → H → Prop}
    (h : Tr prog w hB A env (isTrue test env (eval test env)) Γ Hc fun b H1 => if b then Ev prog w hB A env (eval body env) Γ H1 P else Ev prog w hB A env (eval orelse env) Γ H1 P) :
    Ev prog w hB A env (eval (.IfExp test body orelse pos) env) Γ Hc P := by
  intro τ s E C X
  refine wpAny_IfExp (wpAny_mono (h τ s E C X) (fun b s1 ⟨H1, τ1, C1, S1, p⟩ => ?_) fun _ _ e => e)
  cases b with
  | false => exact wpAny_mono (p τ1 s1 E C1 (X.step C S1)) (fun _ _ q => q.step S1) fun _ _ e => e
  | true => exact wpAny_mono (p τ1 s1 E C1 (X.step C S1)) (fun _ _ q => q.step S1) fun _ _ e => e
theorem Ev.neg {e : Expr} {pos : Pos} {P : CV → H → Prop} (h : Ev prog w hB A env (eval e env) Γ Hc fun v H1 => ∃ n, intOf v = some n ∧ P (.i (-n)) H1) :
    Ev prog w hB A env (eval (.UnaryOp .USub e pos) env) Γ Hc P := by
  intro τ s E C X
  refine wpAny_UnaryOp (wpAny_mono (h τ s E C X) (fun v s1 ⟨cv, H1, τ1, hv, C1, S1, n, e, p⟩ => ?_) fun _ _ e => e)
  obtain ⟨t, rfl⟩ := is_int hv e
  exact PyProof.Rows.neg_int ((Post.int C1 p (Nat.le_refl _) (Nat.lt_succ_self _)).step S1)

/-- identity of two small ints -/
theorem isSame_small {τ : TC} {a b : Int} {va vb : Value} (ha : Is τ va (.i a)) (hb : Is τ vb (.i b)) (hs : smallInt a = true) {E : Value → Shared → Prop} {s : Shared} {Q : Bool → Shared → Prop} (h : Q (decide (a = b)) s) :
    wpAny (model prog w) A (isSame va vb) Q E s := by
  obtain ⟨t, rfl, ht, _, hta⟩ := is_i ha
  obtain ⟨u, rfl, hu, _, hub⟩ := is_i hb
  have ht' : (t == 0) = false := by simpa using ht
  have hu' : (u == 0) = false := by simpa using hu
  unfold isSame
  by_cases hab : a = b
  · subst hab
    simp only [beq_self_eq_true, hs, Bool.and_self, if_true]
    unfold isSame.cachedInt
    simp only [ht', hu', Bool.or_self, Bool.false_eq_true, if_false]
    refine wpAny_bind (wpAny_rule (wpAny_pure ?_))
    simpa using h
  · have e : (a == b) = false := by simpa using hab
    have htu : (t == u) = false := by
      have : t ≠ u := by rintro rfl; exact hab (hta.symm.trans hub)
      simpa using this
    simp only [e, Bool.false_and, Bool.false_eq_true, if_false]
    unfold isSame.created
    simp only [ht', hu', htu, Bool.or_self, Bool.false_eq_true, if_false, Bool.not_false, if_true]
    have h' : Q false s := by simpa [hab] using h
    first | exact wpAny_pure h' | exact wpAny_bind (wpAny_pure (wpAny_pure h')) | skip
theorem Op2.is {a b : Int} {P : CV → H → Prop} (hs : smallInt a = true) (h : P (.b (decide (a = b))) Hc) : Op2 prog w hB A (compareOp .Is) (.i a) (.i b) Hc P := by
  intro τ va vb ha hb s E C
  show wpAny _ _ (do return Value.bool (← isSame va vb)) _ _ _
  exact wpAny_bind (isSame_small ha hb hs (wpAny_pure (Post.here rb C h (Nat.le_refl _))))
end
end Mine

set_option maxRecDepth 100000
set_option maxHeartbeats 1000000
namespace Mine
section
variable {prog : Program} {w : World} {hB : BB} {A : Around} {env : Env} {Γ : G} {Hc : H}

/-! the heap moves -/
theorem Cur.alloc {τ : TC} {s : Shared} {o : Obj} {co : CO} (C : Cur hB Hc τ s) (hh : Holds τ (s.heap.push o) s.heap.objs.size co) {tk : Nat} (ht : s.toks ≤ tk) :
    Hc s.heap.objs.size = none ∧ Cur hB (upd Hc s.heap.objs.size co) τ { s with heap := s.heap.push o, toks := tk } ∧ Step [] Hc (upd Hc s.heap.objs.size co) τ τ s { s with heap := s.heap.push o, toks := tk } := by
  have hn : s.heap.get? s.heap.objs.size = none := fresh_none _
  have hN := C.new hn
  refine ⟨hN, ⟨C.pos, Nat.le_trans C.top ht, fun b o' e => Heap.get?_push_of_some _ (C.base b o' e), fun b o' e => ?_, fun a c e => ?_, fun L hL => let ⟨o', e, d⟩ := C.fr L hL; ⟨o', Heap.get?_push_of_some _ e, d⟩⟩, ⟨.refl _, rfl, fun _ _ h => h, fun h => h, fun b o' h _ _ => like (Heap.get?_push_of_some _ h), fun b o' h hb => ?_, fun b o' h => ⟨o', Heap.get?_push_of_some _ h⟩⟩⟩
  · rw [upd_ne _ _ (by rintro rfl; have := C.base _ _ e; rw [hn] at this; cases this)]; exact C.bsep b o' e
  · by_cases ha : a = s.heap.objs.size
    · subst ha; rw [upd_self] at e; cases e; exact hh
    · rw [upd_ne _ _ ha] at e; exact (C.hok a c e).mono (.refl _) fun o' => Heap.get?_push_of_some _
  · rw [upd_ne _ _ (by rintro rfl; rw [hn] at h; cases h)]; exact hb
theorem Cur.set {τ : TC} {s : Shared} {h' : Heap} {a : Addr} {c0 co : CO} (C : Cur hB Hc τ s) (hs : Heap.ExtBut a s.heap h') (ha : Hc a = some c0) (hh : Holds τ h' a co) {tk : Nat} (ht : s.toks ≤ tk) :
    Cur hB (upd Hc a co) τ { s with heap := h', toks := tk } ∧ Step [] Hc (upd Hc a co) τ τ s { s with heap := h', toks := tk } := by
  refine ⟨⟨C.pos, Nat.le_trans C.top ht, fun b o' e => hs b o' (fun q => ?_) (C.base b o' e), fun b o' e => ?_, fun b c e => ?_, fun L hL => let ⟨o', e, d⟩ := C.fr L hL; ⟨o', hs L o' (fun q => ?_) e, d⟩⟩, ⟨.refl _, rfl, fun _ _ h => h, fun h => h, fun b o' h hb _ => like (hs b o' (fun q => ?_) h), fun b o' h hb => ?_, fun b o' h => ?_⟩⟩
  · subst q; rw [C.bsep _ _ e] at ha; cases ha
  · rw [upd_ne _ _ (by rintro rfl; rw [C.bsep _ _ e] at ha; cases ha)]; exact C.bsep b o' e
  · by_cases hb : b = a
    · subst hb; rw [upd_self] at e; cases e; exact hh
    · rw [upd_ne _ _ hb] at e; exact (C.hok b c e).mono (.refl _) fun o' => hs b o' hb
  · subst q
    obtain ⟨es, n, hd⟩ := d
    obtain ⟨o2, e2, hnd, _⟩ := (C.hok _ _ ha).obj
    rw [e] at e2; cases e2; exact hnd _ _ hd
  · subst q; rw [hb] at ha; cases ha
  · rw [upd_ne _ _ (by rintro rfl; rw [hb] at ha; cases ha)]; exact hb
  · by_cases q : b = a
    · subst q; obtain ⟨o1, e1, _⟩ := hh.obj; exact ⟨o1, e1⟩
    · exact ⟨o', hs b o' q h⟩
theorem Cur.grow {τ : TC} {s : Shared} {h' : Heap} (C : Cur hB Hc τ s) (hk : ∀ b o, s.heap.get? b = some o → h'.get? b = some o) {tk : Nat} (ht : s.toks ≤ tk) :
    Cur hB Hc τ { s with heap := h', toks := tk } ∧ Step [] Hc Hc τ τ s { s with heap := h', toks := tk } :=
  ⟨⟨C.pos, Nat.le_trans C.top ht, fun b o' e => hk _ _ (C.base b o' e), C.bsep, fun a c e => (C.hok a c e).mono (.refl _) fun o' => hk a o', fun L hL => let ⟨o', e, d⟩ := C.fr L hL; ⟨o', hk L o' e, d⟩⟩, ⟨.refl _, rfl, fun _ _ h => h, fun h => h, fun b o' h _ _ => like (hk b o' h), fun _ _ _ h => h, fun b o' h => ⟨o', hk b o' h⟩⟩⟩
theorem Post.alloc {τ : TC} {s : Shared} {o : Obj} {co : CO} {P : CV → H → Prop} (C : Cur hB Hc τ s) (hh : Holds τ (s.heap.push o) s.heap.objs.size co) {tk : Nat} (ht : s.toks ≤ tk) (p : ∀ a, Hc a = none → P (.r a) (upd Hc a co)) :
    Post hB Hc τ s P (.ref s.heap.objs.size) { s with heap := s.heap.push o, toks := tk } :=
  let ⟨a, b, c⟩ := C.alloc hh ht; ⟨_, _, τ, rr, b, c, p _ a⟩

theorem isList_push {τ : TC} {h : Heap} {vs : List Value} (xs : List CV) (hv : AllIs τ vs xs) : Holds τ (h.push { cls := .type "list", data := .seq vs.toArray }) h.objs.size (.list xs) :=
  ⟨vs, ⟨0, Heap.get?_push_size _ rfl⟩, hv⟩
theorem isTup_push {τ : TC} {h : Heap} {vs : List Value} (xs : List CV) (hv : AllIs τ vs xs) : Holds τ (h.push { cls := .type "tuple", data := .seq vs.toArray }) h.objs.size (.tup xs) :=
  ⟨vs, ⟨_, Heap.get?_push_size _ rfl, rfl, _, rfl⟩, hv⟩

/-! several expressions -/
def EvL (prog : Program) (w : World) (hB : BB) (A : Around) (env : Env) (pos : Pos) (es : List Expr) (Γ : G) (Hc : H) (P : List CV → H → Prop) : Prop :=
  ∀ (τ : TC) (s : Shared) (E : Value → Shared → Prop), Cur hB Hc τ s → EnvAt hB env Γ τ s →
    wpAny (model prog w) A (spliced (backTo pos (starEach es env))) (fun vs s' => ∃ xs H' τ', AllIs τ' vs xs ∧ Cur hB H' τ' s' ∧ Step [] Hc H' τ τ' s s' ∧ P xs H') E s
theorem EvL.nil {pos : Pos} {P : List CV → H → Prop} (h : P [] Hc) : EvL prog w hB A env pos [] Γ Hc P :=
  fun τ s _ C _ => spliced_nil ⟨[], Hc, τ, trivial, C, Step.refl _ _ _ _, h⟩
theorem EvL.cons {pos : Pos} {e : Expr} {es : List Expr} {P : List CV → H → Prop}
    (h : Ev prog w hB A env (eval e env) Γ Hc fun x H1 => EvL prog w hB A env pos es Γ H1 fun xs H2 => P (x :: xs) H2)
    (hs : starEach (e :: es) env = (false, eval e env) :: starEach es env := by rfl) : EvL prog w hB A env pos (e :: es) Γ Hc P := by
  intro τ s E C X
  rw [hs]
  show wpAny _ _ (spliced ((false, eval e env) :: backTo pos (starEach es env))) _ _ _
  refine spliced_cons (wpAny_mono (h τ s E C X) (fun v s1 ⟨x, H1, τ1, hv, C1, S1, k⟩ => ?_) fun _ _ e => e)
  refine wpAny_mono (k τ1 s1 E C1 (X.step C S1)) (fun vs s2 ⟨xs, H2, τ2, hvs, C2, S2, p⟩ => ?_) fun _ _ e => e
  exact ⟨x :: xs, H2, τ2, ⟨hv.mono S2.tc, hvs⟩, C2, S1.trans0 S2, p⟩

theorem small_line {n : Nat} (h : n ≤ 1000000) : n ≤ sizeLine := by rw [sizeLine_eq]; omega
theorem Ev.list {es : List Expr} {pos : Pos} {P : CV → H → Prop}
    (h : EvL prog w hB A env pos es Γ Hc fun xs H1 => xs.length ≤ 1000000 ∧ ∀ a, H1 a = none → P (.r a) (upd H1 a (.list xs))) : Ev prog w hB A env (eval (.List es pos) env) Γ Hc P := by
  intro τ s E C X
  refine wpAny_List (wpAny_mono (h τ s E C X) (fun vs s1 ⟨xs, H1, τ1, hv, C1, S1, hl, p⟩ => ⟨small_line (hv.len ▸ hl), ?_⟩) fun _ _ e => e)
  exact (Post.alloc C1 (isList_push xs hv) (Nat.le_refl _) p).step S1
theorem Ev.tuple {es : List Expr} {k : Nat} {pos : Pos} {P : CV → H → Prop}
    (h : EvL prog w hB A env pos es Γ Hc fun xs H1 => xs.length ≤ 1000000 ∧ ∀ a, H1 a = none → P (.r a) (upd H1 a (.tup xs))) : Ev prog w hB A env (eval (.Tuple es k pos) env) Γ Hc P := by
  intro τ s E C X
  refine wpAny_Tuple (wpAny_mono (h τ s E C X) (fun vs s1 ⟨xs, H1, τ1, hv, C1, S1, hl, p⟩ => ⟨small_line (hv.len ▸ hl), ?_⟩) fun _ _ e => e)
  exact (Post.alloc C1 (isTup_push xs hv) (Nat.le_refl _) p).step S1

/-! subscripts -/
theorem Ev.subscript {value slice : Expr} {pos : Pos} {P : CV → H → Prop}
    (h : Ev prog w hB A env (eval value env) Γ Hc fun o H1 => Ev prog w hB A env (eval slice env) Γ H1 fun i H2 =>
      ∃ l xs, o = .r l ∧ H2 l = some (.list xs) ∧ Op2 prog w hB A (getItem) o i H2 P)
    (hs : ∀ o i, subscripted slice false o i = operate [o, i] (getItem o i) := by intro _ _; rfl) : Ev prog w hB A env (eval (.Subscript value slice pos) env) Γ Hc P := by
  intro τ s E C X
  rw [eval_Subscript]
  refine wpAny_bind (wpAny_mono (h τ s E C X) (fun o s1 ⟨co, H1, τ1, ho, C1, S1, k⟩ => ?_) fun _ _ e => e)
  refine wpAny_bind (wpAny_holding (wpAny_mono (k τ1 s1 E C1 (X.step C S1)) (fun i s2 ⟨ci, H2, τ2, hi, C2, S2, l, xs, el, hl, op⟩ => wpAny_bind (wpAny_standAt ?_)) fun _ _ e => e))
  subst el
  obtain ⟨vs, hL, hv⟩ := C2.hok l _ hl
  replace hL := hL.isList
  have ho' := is_r ho
  subst ho'
  refine wpAny_bind ?_
  rw [getitemInPython_of_ne (o := Value.ref l) (fun e => nomatch e)]
  refine wpAny_bind (wpAny_specialOf hL.typeIs slot_list_getitem.lookup ?_)
  have fin : wpAny (model prog w) A (subscripted slice false (.ref l) i) (fun r s₃ => wpAny (model prog w) A (letTemporaryGo value (.ref l) r >>= fun _ => pure r) (Post hB Hc τ s P) E s₃) E s2 := by
    rw [hs]
    refine wpAny_operating (wpAny_mono (op _ _ _ (ho.mono S2.tc) hi s2 E C2) (fun r s₃ h₃ => wpAny_bind (wpAny_letTemporaryGo (wpAny_pure (h₃.step (S1.trans0 S2))))) fun _ _ x => x)
  first
    | exact wpAny_pure (wpAny_bind fin)
    | exact wpAny_bind (wpAny_pure (wpAny_bind fin))
    | exact wpAny_bind fin
theorem Op2.item {l : Addr} {xs : List CV} {ci : CV} {k : Int} {x : CV} {P : CV → H → Prop} (hl : Hc l = some (.list xs)) (h0 : 0 ≤ k) (hk : k < 2 ^ 63) (hx : xs[k.toNat]? = some x) (h : P x Hc) (hi : intOf ci = some k := by rfl) :
    Op2 prog w hB A (getItem) (.r l) ci Hc P := by
  intro τ va vb ha hb s E C
  obtain ⟨vs, hL, hv⟩ := C.hok l _ hl
  replace hL := hL.isList
  obtain ⟨v, hv1, hv2⟩ := hv.get hx
  rw [is_r ha]
  obtain ⟨t, rfl⟩ := is_int hb hi
  exact wpAny_getItem_list hL h0 hk (by simpa using hv1) (Post.here hv2 C h (Nat.le_refl _))
theorem Op2.itemNeg {l : Addr} {xs : List CV} {ci : CV} {k : Int} {x : CV} {P : CV → H → Prop} (hl : Hc l = some (.list xs)) (h0 : k < 0) (hk : -(2 ^ 63) ≤ k) (h1 : -(xs.length : Int) ≤ k) (hx : xs[(k + xs.length).toNat]? = some x) (h : P x Hc) (hi : intOf ci = some k := by rfl) :
    Op2 prog w hB A (getItem) (.r l) ci Hc P := by
  intro τ va vb ha hb s E C
  obtain ⟨vs, hL, hv⟩ := C.hok l _ hl
  replace hL := hL.isList
  have hlen := hv.len
  obtain ⟨v, hv1, hv2⟩ := hv.get hx
  rw [is_r ha]
  obtain ⟨t, rfl⟩ := is_int hb hi
  exact wpAny_getItem_list_neg hL h0 (by rw [List.size_toArray, hlen]; exact h1) hk (by rw [List.size_toArray, hlen]; simpa using hv1) (Post.here hv2 C h (Nat.le_refl _))

/-! slices -/
def EvO (prog : Program) (w : World) (hB : BB) (A : Around) (env : Env) (e : Option Expr) (Γ : G) (Hc : H) (P : Option Int → H → Prop) : Prop :=
  ∀ (τ : TC) (s : Shared) (E : Value → Shared → Prop), Cur hB Hc τ s → EnvAt hB env Γ τ s →
    wpAny (model prog w) A (evalPart e env) (fun v s' => ∃ p H' τ', IsPart v p ∧ Cur hB H' τ' s' ∧ Step [] Hc H' τ τ' s s' ∧ P p H') E s
theorem EvO.nil {P : Option Int → H → Prop} (h : P none Hc) : EvO prog w hB A env none Γ Hc P :=
  fun τ s _ C _ => wpAny_evalPart_none ⟨_, Hc, τ, .none, C, Step.refl _ _ _ _, h⟩
theorem EvO.val {e : Expr} {P : Option Int → H → Prop} (h : Ev prog w hB A env (eval e env) Γ Hc fun v H1 => ∃ n, intOf v = some n ∧ P (some n) H1) : EvO prog w hB A env (some e) Γ Hc P := by
  intro τ s E C X
  refine wpAny_evalPart_some (wpAny_mono (h τ s E C X) (fun v s1 ⟨cv, H1, τ1, hv, C1, S1, n, hn, p⟩ => ?_) fun _ _ e => e)
  obtain ⟨t, rfl⟩ := is_int hv hn
  exact ⟨_, H1, τ1, .int _ _, C1, S1, p⟩
/-- a pick of places, whatever the list -/
def Pick (xs : List CV) (lo hi : Option Int) (zs : List CV) : Prop := ∀ τ (vs : List Value), AllIs τ vs xs → AllIs τ (slicePick vs.toArray lo hi none).toList zs
theorem Ev.slice {value : Expr} {lower upper : Option Expr} {p pos : Pos} {P : CV → H → Prop}
    (h : Ev prog w hB A env (eval value env) Γ Hc fun o H1 => EvO prog w hB A env lower Γ H1 fun lo H2 => EvO prog w hB A env upper Γ H2 fun hi H3 =>
      ∃ l xs zs, o = .r l ∧ H3 l = some (.list xs) ∧ xs.length ≤ 1000000 ∧ Pick xs lo hi zs ∧ ∀ a, H3 a = none → P (.r a) (upd H3 a (.list zs)))
    (ht : ∀ o r, letTemporaryGo value o r = pure () := by intro _ _; rfl) :
    Ev prog w hB A env (eval (.Subscript value (.Slice lower upper none p) pos) env) Γ Hc P := by
  intro τ s E C X
  refine wpAny_Subscript_list_slice ?_ ht
  refine wpAny_mono (h τ s E C X) (fun o s1 ⟨co, H1, τ1, ho, C1, S1, k⟩ => ?_) fun _ _ e => e
  refine wpAny_mono (k τ1 s1 E C1 (X.step C S1)) (fun vl s2 ⟨lo, H2, τ2, pl, C2, S2, k⟩ => ?_) fun _ _ e => e
  refine wpAny_mono (k τ2 s2 E C2 (X.step C (S1.trans0 S2))) (fun vu s3 ⟨hi, H3, τ3, pu, C3, S3, l, xs, zs, el, hl, hlen, hz, kk⟩ => ?_) fun _ _ e => e
  subst el
  obtain ⟨vs, hL, hv⟩ := C3.hok l _ hl
  replace hL := hL.isList
  refine ⟨l, vs.toArray, lo, hi, is_r ho, hL, by rw [List.size_toArray, hv.len]; exact small_line hlen, pl, pu, ?_⟩
  have G4 := C3.grow (h' := s3.heap.push { cls := .type "slice", data := .fields #[vl, vu, .none] }) (fun b o e => Heap.get?_push_of_some _ e) (Nat.le_refl s3.toks)
  have e5 : s3.heap.objs.size + 1 = (s3.heap.push { cls := .type "slice", data := .fields #[vl, vu, .none] }).objs.size := (Heap.size_push _ _).symm
  rw [e5]
  have := Post.alloc (P := P) G4.1 (o := { cls := .type "list", data := .seq (slicePick vs.toArray lo hi none) }) (co := .list zs)
    ⟨(slicePick vs.toArray lo hi none).toList, ⟨0, Heap.get?_push_size _ rfl⟩, hz _ vs hv⟩ (Nat.le_refl s3.toks) kk
  exact (this.step G4.2).step ((S1.trans0 S2).trans0 S3)
theorem pick_from {xs : List CV} {a : Int} (h0 : 0 ≤ a) : Pick xs (some a) none (xs.drop a.toNat) := by
  intro τ vs hv
  have := slicePick_from' vs.toArray a.toNat
  rw [Int.toNat_of_nonneg h0] at this
  rw [this]; exact hv.drop _
theorem pick_upto {xs : List CV} {b : Int} (h0 : 0 ≤ b) : Pick xs none (some b) (xs.take b.toNat) := by
  intro τ vs hv
  have := slicePick_upto' vs.toArray b.toNat
  rw [Int.toNat_of_nonneg h0] at this
  rw [this]; exact hv.take _
theorem pick_run {xs : List CV} {a b : Int} (h0 : 0 ≤ a) (h1 : a ≤ b) (h2 : b ≤ xs.length) : Pick xs (some a) (some b) ((xs.drop a.toNat).take (b.toNat - a.toNat)) := by
  intro τ vs hv
  have := slicePick_run vs.toArray a.toNat b.toNat (by rw [List.size_toArray, hv.len]; omega) (by (clear h0 h2; omega))
  rw [Int.toNat_of_nonneg h0, Int.toNat_of_nonneg (by (clear h2; omega))] at this
  rw [this]; exact (hv.drop _).take _
theorem pick_all {xs : List CV} : Pick xs none none xs := by
  intro τ vs hv
  rw [slicePick_all]; exact hv
theorem Ev.reverse {value : Expr} {p q r pos : Pos} {k : Nat} {P : CV → H → Prop}
    (h : Ev prog w hB A env (eval value env) Γ Hc fun o H1 => ∃ l xs, o = .r l ∧ H1 l = some (.list xs) ∧ xs.length ≤ 1000000 ∧ ∀ a, H1 a = none → P (.r a) (upd H1 a (.list xs.reverse)))
    (ht : ∀ o r, letTemporaryGo value o r = pure () := by intro _ _; rfl) :
    Ev prog w hB A env (eval (.Subscript value (.Slice none none (some (.UnaryOp .USub (.Constant (.int 1) k r) q)) p) pos) env) Γ Hc P := by
  intro τ s E C X
  refine wpAny_Subscript_Slice_step slot_list_getitem.lookup ?_ ht
  refine wpAny_mono (h τ s E C X) (fun o s1 ⟨co, H1, τ1, ho, C1, S1, l, xs, el, hl, hlen, k⟩ => ?_) fun _ _ e => e
  subst el
  rw [is_r ho]
  refine wpAny_Slice (wpAny_evalPart_none (wpAny_evalPart_none (wpAny_evalPart_some (wpAny_UnaryOp (wpAny_Constant_int (PyProof.Rows.neg_int ?_))))))
  have G4 := C1.grow (h' := s1.heap.push { cls := .type "slice", data := .fields #[.none, .none, .int (-1) (s1.toks + 1)] }) (fun b o e => Heap.get?_push_of_some _ e) (tk := s1.toks + 1 + 1) (by (clear ht hlen k; omega))
  obtain ⟨vs', hL', hv'⟩ := G4.1.hok l _ hl
  replace hL' := hL'.isList
  refine ⟨hL'.typeIs, ?_⟩
  refine wpAny_getItem_list_slice (lo := none) (hi := none) (st := some (-1)) hL' ⟨_, Heap.get?_push_size _ rfl, rfl, rfl⟩ .none .none (.int _ _) (by simp) ?_ (by rw [List.size_toArray, hv'.len]; exact small_line hlen)
  have := Post.alloc (P := P) G4.1 (o := { cls := .type "list", data := .seq (slicePick vs'.toArray none none (some (-1))) }) (co := .list xs.reverse)
    ⟨(slicePick vs'.toArray none none (some (-1))).toList, ⟨0, Heap.get?_push_size _ rfl⟩, by rw [krv_pick]; exact hv'.reverse⟩ (Nat.le_refl (s1.toks + 1 + 1)) k
  exact (this.step G4.2).step S1
end
end Mine

set_option maxRecDepth 100000
set_option maxHeartbeats 1000000
namespace Mine
/-- the stack's frames are known -/
def Link (hB : BB) (A : Around) : Prop := ∃ l, A.frames = some l ∧ ∀ env ∈ l, env.scope.kind ≠ .module ∧ ∃ L, env.frame = some L ∧ L ∈ hB.fs ∧ hB.get? L = none
def Room (hB : BB) (d : Nat) (A : Around) : Prop := A.handled = none ∧ A.depth + d < recursionLimit ∧ A.units + 100 + 10 * d < cLine ∧ Link hB A
theorem Room.deeper {hB : BB} {d : Nat} {A : Around} {env : Env} {L : Addr} (h : Room hB (d + 1) A) (hk : env.scope.kind = .function) (hf : env.frame = some L) (hn : hB.get? L = none) : Room (hB.deep L) d (A.deeper env) := by
  obtain ⟨a, b, c, l, hl, k⟩ := h
  refine ⟨a, ?_, ?_, env :: l, PySem.Around.frames_deeper hl, fun e he => ?_⟩
  · show A.depth + 1 + d < _; (clear c k; omega)
  · show A.units + 3 + 100 + 10 * d < _; (clear b k; omega)
  · rcases List.mem_cons.mp he with rfl | he
    · exact ⟨by rw [hk]; decide, L, hf, List.mem_cons_self .., hn⟩
    · obtain ⟨k1, L', k2, k3, k4⟩ := k e he
      exact ⟨k1, L', k2, List.mem_cons_of_mem _ k3, k4⟩
theorem Room.less {hB : BB} {d e : Nat} {A : Around} (h : Room hB d A) (he : e ≤ d) : Room hB e A := by
  obtain ⟨a, b, c, k⟩ := h
  exact ⟨a, by (clear c; omega), by (clear b; omega), k⟩
theorem Room.depth {hB : BB} {d : Nat} {A : Around} (h : Room hB d A) : A.depth < recursionLimit := by have := h.2.1; omega
theorem Room.units {hB : BB} {d : Nat} {A : Around} (h : Room hB d A) : A.units + 64 < cLine := by have := h.2.2.1; omega

/-- the module's names -/
structure Gl (hB : BB) (mg mb : Str → Option Value) : Prop where
  g : hB.heap.Ns mainGlobals mg
  b : hB.heap.Ns builtinsNs mb
  lim : hB.heap.NoLimit
  boot : ∀ x : Str, x ≠ "__name__" → mb x = bootBuiltins x

section
variable {prog : Program} {w : World} {hB : BB} {A : Around} {env : Env} {Γ : G} {Hc : H} {mg mb : Str → Option Value}

theorem Cur.lim {τ : TC} {s : Shared} (C : Cur hB Hc τ s) (L : Gl hB mg mb) : s.heap.NoLimit := L.lim.keeps C.base

/-- a global name of the text's -/
theorem name_global {x : Str} {pos : Pos} {v : Value} {τ : TC} {s : Shared} {E Q : Value → Shared → Prop} (L : Gl hB mg mb) (C : Cur hB Hc τ s) (X : EnvAt hB env Γ τ s) (hk : env.kindOf x = some .globalImplicit) (hv : mg x = some v) (h : Q v s)
    (hd : (x == ("__debug__" : Str)) = false) : wpAny (model prog w) A (eval (.Name x pos) env) Q E s :=
  Name_function_global X.fn hk (loadGlobal_global (by rw [X.glo]; exact L.g.keeps C.base) hv h) hd
theorem name_builtin {x : Str} {pos : Pos} {v : Value} {τ : TC} {s : Shared} {E Q : Value → Shared → Prop} (L : Gl hB mg mb) (C : Cur hB Hc τ s) (X : EnvAt hB env Γ τ s) (hk : env.kindOf x = some .globalImplicit) (hm : mg x = none)
    (hv : bootBuiltins x = some v) (hn : x ≠ "__name__") (h : Q v s) (hd : (x == ("__debug__" : Str)) = false) : wpAny (model prog w) A (eval (.Name x pos) env) Q E s :=
  Name_function_global X.fn hk (loadGlobal_builtin (by rw [X.glo]; exact L.g.keeps C.base) hm (by rw [X.bui]; exact L.b.keeps C.base) ((L.boot x hn).trans hv) h) hd

/-- a def's call: what it hands back, and the lists behind it -/
def Fn (prog : Program) (w : World) (hB : BB) (d : Nat) (f : Addr) (args : List CV) (Hc : H) (P : CV → H → Prop) : Prop :=
  ∀ (A : Around) (τ : TC) (s : Shared) (vs : List Value), Room hB d A → AllIs τ vs args → Cur hB Hc τ s →
    codeAny (model prog w) A (.call (.ref f) ⟨vs, []⟩) (fun r s' => ∃ v, r = .ok (.ret v) ∧ Post hB Hc τ s P v s') s
/-- a built-in's call -/
def Bi (prog : Program) (w : World) (hB : BB) (A : Around) (id : String) (args : List CV) (Hc : H) (P : CV → H → Prop) : Prop :=
  ∀ (τ : TC) (s : Shared) (E : Value → Shared → Prop) (vs : List Value), AllIs τ vs args → Cur hB Hc τ s → wpAny (model prog w) A (call (.builtin id) vs []) (Post hB Hc τ s P) E s

theorem evalArgs_of {f : Value} {pos : Pos} {es : List Expr} {s : Shared} {E : Value → Shared → Prop} {Q : Args → Shared → Prop} {t : Sem Value} {ts : List (Bool × Sem Value)}
    (ht : starEach es env = (false, t) :: ts)
    (h : wpAny (model prog w) A (spliced (backTo pos (starEach es env))) (fun vs s' => Q ⟨vs, []⟩ s') E s) : wpAny (model prog w) A (evalArgs f true (backTo pos (starEach es env)) []) Q E s := by
  rw [ht] at h ⊢
  exact evalArgs_plain h

theorem noStar_any {pos : Pos} {es : List Expr} (ht : (starEach es env).all (fun t => !t.1) = true) : (backTo pos (starEach es env)).any (·.1) = false := by
  rw [List.any_eq_false]
  intro x hx
  obtain ⟨y, hy, rfl⟩ := List.mem_map.mp hx
  have := List.all_eq_true.mp ht y hy
  simpa using this

theorem Ev.callB {t1 : Sem Value} {ts : List (Bool × Sem Value)} {x : Str} {np pos : Pos} {es : List Expr} {id : String} {P : CV → H → Prop} (L : Gl hB mg mb) (hm : mg x = none) (hv : bootBuiltins x = some (.builtin id))
    (h : EvL prog w hB A env pos es Γ Hc fun xs H1 => Bi prog w hB A id xs H1 P)
    (hk : env.kindOf x = some .globalImplicit := by rfl) (ht1 : starEach es env = (false, t1) :: ts := by rfl) (ht : (starEach es env).all (fun t => !t.1) = true := by rfl)
    (hn : x ≠ "__name__" := by decide) (hd : (x == ("__debug__" : Str)) = false := by decide) :
    Ev prog w hB A env (eval (.Call (.Name x np) es [] pos) env) Γ Hc P := by
  intro τ s E C X
  refine wpAny_Call_NameR (name_builtin L C X hk hm hv hn ?_ hd)
  refine callWith_builtin (noStar_any ht) (evalArgs_of ht1 ?_)
  refine wpAny_mono (h τ s E C X) (fun vs s1 ⟨xs, H1, τ1, hv, C1, S1, k⟩ => ?_) fun _ _ e => e
  exact wpAny_mono (k τ1 s1 E vs hv C1) (fun _ _ p => p.step S1) fun _ _ e => e
theorem Ev.callF {t1 : Sem Value} {ts : List (Bool × Sem Value)} {x : Str} {np pos : Pos} {es : List Expr} {f : Addr} {o : Obj} {fd : FuncData} {d : Nat} {P : CV → H → Prop} (L : Gl hB mg mb) (hm : mg x = some (.ref f)) (ho : hB.get? f = some o) (hf : o.data = .func fd) (hR : Room hB d A)
    (h : EvL prog w hB A env pos es Γ Hc fun xs H1 => Fn prog w hB d f xs H1 P)
    (hk : env.kindOf x = some .globalImplicit := by rfl) (ht1 : starEach es env = (false, t1) :: ts := by rfl) (ht : (starEach es env).all (fun t => !t.1) = true := by rfl)
    (hd : (x == ("__debug__" : Str)) = false := by decide) :
    Ev prog w hB A env (eval (.Call (.Name x np) es [] pos) env) Γ Hc P := by
  intro τ s E C X
  refine wpAny_Call_NameR (name_global L C X hk hm ?_ hd)
  refine callWith_function (o := o) (fd := fd) (evalArgs_of ht1 ?_)
  refine wpAny_mono (h τ s E C X) (fun vs s1 ⟨xs, H1, τ1, hv, C1, S1, k⟩ => ⟨⟨C1.base _ _ ho, hf⟩, ?_⟩) fun _ _ e => e
  refine wpAny_call (codeAny_mono (k A τ1 s1 vs hR hv C1) (fun r s' ⟨v, e, p⟩ => ?_))
  subst e
  exact p.step S1

/-! built-ins -/
theorem one_arg {τ : TC} {vs : List Value} {a : CV} (h : AllIs τ vs [a]) : ∃ v, vs = [v] ∧ Is τ v a := by
  cases vs with
  | nil => exact h.elim
  | cons v r =>
    cases r with
    | nil => exact ⟨v, rfl, h.1⟩
    | cons u q => exact h.2.elim
theorem two_args {τ : TC} {vs : List Value} {a b : CV} (h : AllIs τ vs [a, b]) : ∃ v u, vs = [v, u] ∧ Is τ v a ∧ Is τ u b := by
  cases vs with
  | nil => exact h.elim
  | cons v r =>
    obtain ⟨u, rfl, hu⟩ := one_arg h.2
    exact ⟨v, u, rfl, h.1, hu⟩
theorem three_args {τ : TC} {vs : List Value} {a b c : CV} (h : AllIs τ vs [a, b, c]) : ∃ v u t, vs = [v, u, t] ∧ Is τ v a ∧ Is τ u b ∧ Is τ t c := by
  cases vs with
  | nil => exact h.elim
  | cons v r =>
    obtain ⟨u, t, rfl, hu, ht⟩ := two_args h.2
    exact ⟨v, u, t, rfl, h.1, hu, ht⟩
theorem Bi.len {l : Addr} {xs : List CV} {P : CV → H → Prop} (hl : Hc l = some (.list xs)) (hsz : xs.length ≤ 1000000) (h : P (.i xs.length) Hc) : Bi prog w hB A "len" [.r l] Hc P := by
  intro τ s E vs hv C
  obtain ⟨v, rfl, hv1⟩ := one_arg hv
  rw [is_r hv1]
  obtain ⟨us, hL, hu⟩ := C.hok l _ hl
  have hlen := hu.len
  refine len_list hL.isList ?_ ?_
  · rw [List.size_toArray, hlen]; omega
  · rw [List.size_toArray, hlen]; exact Post.int C h (Nat.le_succ _) (Nat.lt_succ_self _)
end
end Mine

set_option maxRecDepth 100000
set_option maxHeartbeats 1000000
namespace Mine
def IsInts (xs : List CV) (ns : List Int) : Prop := xs.map intOf = ns.map some
theorem IsInts.len {xs : List CV} {ns : List Int} (h : IsInts xs ns) : xs.length = ns.length := by
  have := congrArg List.length h; simpa using this
theorem ints_are {τ : TC} : ∀ {vs : List Value} {xs : List CV} {ns : List Int}, AllIs τ vs xs → IsInts xs ns → IntsAre vs ns
  | [], [], [], _, _ => .nil
  | [], [], _ :: _, _, h => by cases h
  | [], _ :: _, _, h, _ => h.elim
  | _ :: _, [], _, h, _ => h.elim
  | _ :: _, _ :: _, [], _, h => by cases h
  | v :: vs, x :: xs, n :: ns, h, k => by
    simp only [IsInts, List.map_cons, List.cons.injEq] at k
    obtain ⟨t, rfl⟩ := is_int h.1 k.1
    exact .cons n t (ints_are h.2 k.2)
theorem isInts_i (ns : List Int) : IsInts (ns.map CV.i) ns := by
  unfold IsInts; rw [List.map_map]; rfl

theorem plain_update {h : Heap} {l : Addr} {items : Array Value} {n : Nat} (f : Array Value → Array Value) (ho : h.get? l = some { cls := .type "list", data := .seq items n }) :
    (h.update l (Obj.mapSeq f)).PlainList l (f items) :=
  ⟨_, Heap.get?_update_self _ ho rfl⟩

section
variable {prog : Program} {w : World} {hB : BB} {A : Around} {env : Env} {Γ : G} {Hc : H} {mg mb : Str → Option Value}

theorem Bi.sum {l : Addr} {xs : List CV} {ns : List Int} {P : CV → H → Prop} (hR : Room hB 0 A) (hl : Hc l = some (.list xs)) (hi : IsInts xs ns) (h : P (.w ns.sum) Hc) : Bi prog w hB A "sum" [.r l] Hc P := by
  intro τ s E vs hv C
  obtain ⟨v, rfl, hv1⟩ := one_arg hv
  rw [is_r hv1]
  obtain ⟨us, hL, hu⟩ := C.hok l _ hl
  have hL := hL.isList
  have hI := ints_are hu hi
  have hh : A.in1.handled = none := hR.1
  have hlt : l < s.heap.objs.size := by obtain ⟨o, ho, _⟩ := hL; exact Heap.lt_size ho
  refine wpAny_with_toks (Nat.le_refl s.toks) (call_sum_walkG (wpAny_pyIter_list hL ?_))
  refine ⟨_, _, _, _, _, _, fun i => ns.getD i 0, rfl, Walks.list (prog := prog) (w := w) hh s.heap.objs.size l (Nat.ne_of_lt hlt) us.toArray, ?_, ?_, ?_, ?_⟩
  · exact ⟨⟨_, Heap.get?_push_size _ rfl, rfl, rfl⟩, hL.push _⟩
  · intro b hb
    rw [Heap.size_push]
    rcases List.mem_cons.mp hb with rfl | hb
    · exact Nat.lt_succ_self _
    · rw [List.mem_singleton.mp hb]; exact Nat.lt_succ_of_lt hlt
  · intro i v hv
    have hlt' : i < ns.length := by
      have := hI.length
      rcases Nat.lt_or_ge i us.length with h | h
      · (clear hlt; omega)
      · rw [show us.toArray[i]? = none by simpa using h] at hv; cases hv
    obtain ⟨t, ht⟩ := hI.get i ns[i] (by simp [hlt'])
    refine ⟨t, ?_⟩
    have hv' : us[i]? = some v := by simpa using hv
    rw [ht] at hv'
    rw [← Option.some.inj hv']
    simp [List.getD, hlt']
  · intro h' tk t' hk
    have hlen : us.toArray.size = ns.length := by rw [List.size_toArray]; exact hI.length
    rw [hlen, preSum_getD, List.take_length]
    intro htk
    obtain ⟨C', S'⟩ := C.grow (h' := h') (fun b o e => hk b o (fun q => by rw [List.mem_singleton.mp q, fresh_none] at e; cases e) (Heap.get?_push_of_some _ e)) htk
    exact ⟨.w ns.sum, Hc, τ, rw, C', S', h⟩
theorem Bi.chr {k : Int} {c : CV} {P : CV → H → Prop} (hc : intOf c = some k) (h0 : 0 ≤ k) (h1 : k ≤ 1114111) (h : P (.s ⟨#[k.toNat]⟩) Hc) : Bi prog w hB A "chr" [c] Hc P := by
  intro τ s E vs hv C
  obtain ⟨v, rfl, hv1⟩ := one_arg hv
  obtain ⟨t, rfl⟩ := is_int hv1 hc
  exact PyProof.Rows.chr_of_range h0 h1 (Post.here rs C h (Nat.le_succ _))

/-! methods -/
theorem Ev.append {o e : Expr} {apos pos : Pos} {P : CV → H → Prop}
    (h : Ev prog w hB A env (eval o env) Γ Hc fun v H1 => ∃ l xs0, v = .r l ∧ H1 l = some (.list xs0) ∧ Ev prog w hB A env (eval e env) Γ H1 fun x H2 => ∃ xs, H2 l = some (.list xs) ∧ xs.length ≤ 1000000 ∧ P .n (upd H2 l (.list (xs ++ [x]))))
    (hbase : attributeBase o "append" env (eval o env) = eval o env := by rfl) (hline : (apos.endLine == pos.line) = true := by rfl) (htrees : backTo pos (starEach [e] env) = [(false, eval e env)] := by rfl) :
    Ev prog w hB A env (eval (.Call (.Attribute o "append" apos) [e] [] pos) env) Γ Hc P := by
  intro τ s E C X
  refine wpAny_Call_method1_late hbase hline htrees (wpAny_mono (h τ s E C X) (fun ov s1 ⟨cv, H1, τ1, hv, C1, S1, l, xs0, e1, hl0, k⟩ => ?_) fun _ _ e => e)
  subst e1
  rw [is_r hv]
  obtain ⟨vs0, ⟨n0, ho0⟩, _⟩ := C1.hok l _ hl0
  refine ⟨"list", _, F.plainAttrs_list, F.slot_list_append, F.type_list_append, ⟨_, ho0, rfl⟩, (fun a e => ⟨_, by cases e; exact ho0, rfl⟩), PySem.P.append_list ?_⟩
  refine wpAny_mono (k τ1 s1 E C1 (X.step C S1)) (fun v s2 ⟨x, H2, τ2, hx, C2, S2, xs, hl, hsz, p⟩ => ?_) fun _ _ e => e
  obtain ⟨vs, ⟨n, ho⟩, hvs⟩ := C2.hok l _ hl
  refine ⟨vs.toArray, n, by rw [List.size_toArray, hvs.len]; exact small_line hsz, ho, ?_⟩
  have hp := plain_update (fun xs => xs.push v) ho
  obtain ⟨C3, S3⟩ := C2.set (h' := s2.heap.update l (Obj.mapSeq fun xs => xs.push v)) (co := .list (xs ++ [x])) (Heap.SameBut.update ..).extBut hl ⟨vs ++ [v], by simpa using hp, hvs.append ⟨hx, trivial⟩⟩ (Nat.le_refl s2.toks)
  exact ⟨.n, _, τ2, rn, C3, (S1.trans0 S2).trans0 S3, p⟩
theorem Ev.pop {o : Expr} {apos pos : Pos} {P : CV → H → Prop}
    (h : Ev prog w hB A env (eval o env) Γ Hc fun v H1 => ∃ l xs x, v = .r l ∧ H1 l = some (.list (xs ++ [x])) ∧ xs.length ≤ 900000 ∧ P x (upd H1 l (.list xs)))
    (hbase : attributeBase o "pop" env (eval o env) = eval o env := by rfl) (hline : (apos.endLine == pos.line) = true := by rfl) :
    Ev prog w hB A env (eval (.Call (.Attribute o "pop" apos) [] [] pos) env) Γ Hc P := by
  intro τ s E C X
  refine wpAny_Call_method0_late hbase hline (wpAny_mono (h τ s E C X) (fun ov s1 ⟨cv, H1, τ1, hv, C1, S1, l, xs, x, e1, hl, hsz, p⟩ => ?_) fun _ _ e => e)
  subst e1
  rw [is_r hv]
  obtain ⟨vs, ⟨n, ho⟩, hvs⟩ := C1.hok l _ hl
  have hlen : vs.length = xs.length + 1 := by have := hvs.len; simpa using this
  obtain ⟨v, hv1, hv2⟩ := hvs.get (k := xs.length) (x := x) (by simp)
  have hvs' : vs = vs.take xs.length ++ [v] := by
    have h1 : vs.take (xs.length + 1) = vs := by rw [List.take_of_length_le]; (clear hsz; omega)
    rw [List.take_add_one, hv1] at h1
    simpa using h1.symm
  refine ⟨"list", _, F.plainAttrs_list, F.slot_list_pop, F.type_list_pop, ⟨_, ho, rfl⟩, (fun a e => ⟨_, by cases e; exact ho, rfl⟩), PySem.P.pop_list (y := v) ho ?_ ?_ ?_⟩
  · rw [List.size_toArray, hlen]; simpa using hv1
  · have hp := plain_update (fun xs => xs.eraseIdxIfInBounds (vs.toArray.size - 1)) ho
    have ee : (vs.toArray.eraseIdxIfInBounds (vs.toArray.size - 1)) = (vs.take xs.length).toArray := by
      have e1 : vs.toArray.size - 1 = xs.length := by rw [List.size_toArray, hlen, Nat.add_sub_cancel]
      rw [e1, Array.eraseIdxIfInBounds_eq]
      split
      · apply Array.ext'
        simp only [Array.toList_eraseIdx]
        rw [List.eraseIdx_eq_take_drop_succ]
        simp [List.drop_of_length_le, hlen]
      · rename_i hn; rw [List.size_toArray] at hn; (clear hsz e1; omega)
    obtain ⟨C3, S3⟩ := C1.set (h' := s1.heap.update l (Obj.mapSeq fun xs => xs.eraseIdxIfInBounds (vs.toArray.size - 1))) (co := .list xs) (Heap.SameBut.update ..).extBut hl
      ⟨vs.take xs.length, by rw [← ee]; exact hp, by have := hvs.take xs.length; simpa using this⟩ (Nat.le_refl s1.toks)
    exact ⟨x, _, τ1, hv2, C3, S1.trans0 S3, p⟩
  · rw [List.size_toArray, hlen]; exact small_line (by omega)

theorem strVals {τ : TC} {vs : List Value} : ∀ {ts : List Str}, AllIs τ vs (ts.map CV.s) → ∃ l : List (Str × Tok), vs = strValues l ∧ l.map (·.1) = ts := by
  induction vs with
  | nil => intro ts h; cases ts with
    | nil => exact ⟨[], rfl, rfl⟩
    | cons t r => exact h.elim
  | cons v vs ih => intro ts h; cases ts with
    | nil => exact h.elim
    | cons t r =>
      obtain ⟨l, e1, e2⟩ := ih h.2
      obtain ⟨k, rfl⟩ := is_s h.1
      exact ⟨(t, k) :: l, by rw [e1]; rfl, by rw [List.map_cons, e2]⟩
theorem Ev.join {x : Str} {k : Nat} {cp : Pos} {e : Expr} {apos pos : Pos} {P : CV → H → Prop}
    (h : Ev prog w hB A env (eval e env) Γ Hc fun v H1 => ∃ l ts, v = .r l ∧ H1 l = some (.list (ts.map CV.s)) ∧ JoinOk x ts = true ∧ P (.s (Txt.join x ts)) H1)
    (hbase : attributeBase (.Constant (.str x) k cp) "join" env (eval (.Constant (.str x) k cp) env) = eval (.Constant (.str x) k cp) env := by rfl) (hline : (apos.endLine == pos.line) = true := by rfl) (htrees : backTo pos (starEach [e] env) = [(false, eval e env)] := by rfl) :
    Ev prog w hB A env (eval (.Call (.Attribute (.Constant (.str x) k cp) "join" apos) [e] [] pos) env) Γ Hc P := by
  intro τ s E C X
  refine wpAny_Call_method1_late hbase hline htrees (wpAny_Constant_str ?_)
  refine ⟨"str", _, F.plainAttrs_str, F.slot_str_join, F.type_str_join, typeIs_str _ _ _, (fun _ e => nomatch e), ?_⟩
  refine callWith_builtin rfl (evalArgs_plain (spliced_cons ?_))
  refine wpAny_mono (h τ { s with toks := s.toks + 1 } E (C.toks (.refl _) (Nat.le_succ_of_le C.top)) (X.keeps (.refl _) fun _ _ _ e => like e)) (fun v s1 ⟨cv, H1, τ1, hv, C1, S1, l, ts, e1, hl, hok, p⟩ => ?_) fun _ _ e => e
  subst e1
  rw [is_r hv]
  obtain ⟨vs, hL, hvs⟩ := C1.hok l _ hl
  obtain ⟨q, e1, e2⟩ := strVals hvs
  subst e1
  refine spliced_nil (wpAny_with_toks (Nat.le_refl s1.toks) (SC.join hL.isList e2 hok fun t' k hk => ?_))
  have := Post.here (v := .str (Txt.join x ts) t') (cv := .s (Txt.join x ts)) rs C1 p hk
  exact this.step ((Step.toks _ _ (.refl _) s (s.toks + 1)).trans0 S1)

/-! lists -/
theorem Op2.addl {a b : Addr} {xs ys : List CV} {P : CV → H → Prop} (ha : Hc a = some (.list xs)) (hb : Hc b = some (.list ys)) (hsz : xs.length + ys.length ≤ 1000000) (h : ∀ c, Hc c = none → P (.r c) (upd Hc c (.list (xs ++ ys)))) :
    Op2 prog w hB A (binaryOp .Add) (.r a) (.r b) Hc P := by
  intro τ va vb hva hvb s E C
  rw [is_r hva, is_r hvb]
  obtain ⟨vs, ⟨n, ho⟩, hv⟩ := C.hok a _ ha
  obtain ⟨us, ⟨m, hq⟩, hu⟩ := C.hok b _ hb
  refine PySem.P.add_list ho hq ?_ ?_
  · exact Post.alloc (co := .list (xs ++ ys)) C ⟨vs ++ us, ⟨0, by simpa using Heap.get?_push_size (o := { cls := .type "list", data := .seq (vs.toArray ++ us.toArray) }) _ rfl⟩, hv.append hu⟩ (Nat.le_refl s.toks) h
  · rw [List.size_toArray, List.size_toArray, hv.len, hu.len]; exact small_line hsz
theorem Op2.inl {l : Addr} {xs : List CV} {ns : List Int} {c : CV} {k : Int} {P : CV → H → Prop} (hl : Hc l = some (.list xs)) (hi : IsInts xs ns) (h : P (.b (ns.any (· == k))) Hc) (hc : intOf c = some k := by rfl) :
    Op2 prog w hB A (compareOp .In) c (.r l) Hc P := by
  intro τ va vb hva hvb s E C
  obtain ⟨t, rfl⟩ := is_int hva hc
  rw [is_r hvb]
  obtain ⟨vs, hL, hv⟩ := C.hok l _ hl
  exact in_list_ints hL.isList (ints_are hv hi) (Post.here rb C h (Nat.le_refl _))
theorem Op2.eql {a b : Addr} {xs ys : List CV} {ns ms : List Int} {P : CV → H → Prop} (hR : Room hB 0 A) (ha : Hc a = some (.list xs)) (hb : Hc b = some (.list ys)) (hx : IsInts xs ns) (hy : IsInts ys ms) (h : P (.b (decide (ns = ms))) Hc) :
    Op2 prog w hB A (compareOp .Eq) (.r a) (.r b) Hc P := by
  intro τ va vb hva hvb s E C
  rw [is_r hva, is_r hvb]
  obtain ⟨vs, hL, hv⟩ := C.hok a _ ha
  obtain ⟨us, hL', hu⟩ := C.hok b _ hb
  exact eq_intsK hL.isList (ints_are hv hx) hL'.isList (ints_are hu hy) hR.units (Post.here rb C h (Nat.le_refl _))
theorem Op2.nel {a b : Addr} {xs ys : List CV} {ns ms : List Int} {P : CV → H → Prop} (hR : Room hB 0 A) (ha : Hc a = some (.list xs)) (hb : Hc b = some (.list ys)) (hx : IsInts xs ns) (hy : IsInts ys ms) (h : P (.b (!decide (ns = ms))) Hc) :
    Op2 prog w hB A (compareOp .NotEq) (.r a) (.r b) Hc P := by
  intro τ va vb hva hvb s E C
  rw [is_r hva, is_r hvb]
  obtain ⟨vs, hL, hv⟩ := C.hok a _ ha
  obtain ⟨us, hL', hu⟩ := C.hok b _ hb
  exact ne_intsK hL.isList (ints_are hv hx) hL'.isList (ints_are hu hy) hR.units (Post.here rb C h (Nat.le_refl _))
end
end Mine

set_option maxRecDepth 100000
set_option maxHeartbeats 1000000
namespace Mine
section
variable {prog : Program} {w : World} {hB : BB} {A : Around} {env : Env} {Γ : G} {Hc : H} {mg mb : Str → Option Value}

theorem Step.transOwn {H0 H1 H2 : H} {τ0 τ1 τ2 : TC} {s0 s1 s2 : Shared} (x : Step (ownOf env) H0 H1 τ0 τ1 s0 s1) (y : Step (ownOf env) H1 H2 τ1 τ2 s1 s2) : Step (ownOf env) H0 H2 τ0 τ2 s0 s2 :=
  x.trans y fun _ _ _ h => h
theorem PostX.step {H0 H1 : H} {τ0 τ1 : TC} {s0 s1 s' : Shared} {Q : CF → G → H → Prop} {f : Flow} (S : Step (ownOf env) H0 H1 τ0 τ1 s0 s1) (p : PostX hB env H1 τ1 s1 Q f s') : PostX hB env H0 τ0 s0 Q f s' :=
  let ⟨cf, Γ', H', τ', a, b, c, d, e⟩ := p; ⟨cf, Γ', H', τ', a, b, c, S.transOwn d, e⟩
theorem PostX.step0 {H0 H1 : H} {τ0 τ1 : TC} {s0 s1 s' : Shared} {Q : CF → G → H → Prop} {f : Flow} (S : Step [] H0 H1 τ0 τ1 s0 s1) (p : PostX hB env H1 τ1 s1 Q f s') : PostX hB env H0 τ0 s0 Q f s' :=
  let ⟨cf, Γ', H', τ', a, b, c, d, e⟩ := p; ⟨cf, Γ', H', τ', a, b, c, S.trans0 d, e⟩

theorem storeL {x : Str} {v : Value} {cv : CV} {τ : TC} {s : Shared} {E : Value → Shared → Prop} {Q : Unit → Shared → Prop} (C : Cur hB Hc τ s) (X : EnvAt hB env Γ τ s) (hv : Is τ v cv) (hk : env.kindOf x = some .local)
    (h : ∀ s', Cur hB Hc τ s' → EnvAt hB env (put Γ x cv) τ s' → Step [env.locals] Hc Hc τ τ s s' → Q () s') : wpAny (model prog w) A (storeName env x v) Q E s := by
  have hp : (env.scope.kind == .class || (env.scope.kind == .module && env.locals != env.globals)) = false := by rw [X.fn]; rfl
  have hLown : env.locals ∈ ownOf env := List.mem_cons_self ..
  obtain ⟨m, hn, hm⟩ := X.loc
  have hLn := C.notDict hn
  refine wpAny_storeName_local hk hn (fun h' hn' hs' => h _ ?_ ?_ ?_) hp
  · exact ⟨C.pos, Nat.le_succ_of_le C.top, fun b o e => hs'.extBut b o (by rintro rfl; rw [X.new _ hLown] at e; cases e) (C.base b o e), C.bsep,
      fun a co e => (C.hok a co e).mono (.refl _) fun o ho => hs'.extBut a o (by rintro rfl; rw [hLn] at e; cases e) ho,
      fun L hL => by
        by_cases q : L = env.locals
        · subst q; obtain ⟨o', es, ep, ho', hd', _⟩ := hn'; exact ⟨o', ho', es, ep, hd'⟩
        · obtain ⟨o', e, d⟩ := C.fr L hL; exact ⟨o', hs'.extBut L o' q e, d⟩⟩
  · refine ⟨X.fn, X.glo, X.bui, X.new, X.apart, ⟨_, hn', fun y cv' hy hg => ?_⟩, fun y hy => ?_, fun y c hc => ?_⟩
    · unfold put at hg
      by_cases e : y = x
      · rw [if_pos e] at hg ⊢; cases hg; exact ⟨v, rfl, hv⟩
      · rw [if_neg e] at hg ⊢; exact hm y cv' hy hg
    · obtain ⟨c, u, hc, hi, hu⟩ := X.cell y hy
      refine ⟨c, u, hc, hi.sameBut hs' (fun e => ?_), fun cv' hg => hu cv' ?_⟩
      · subst e
        obtain ⟨o, ho, hd⟩ := hi
        obtain ⟨o', _, _, ho', hd', _⟩ := hn
        rw [ho] at ho'; cases ho'; rw [hd] at hd'; cases hd'
      · rwa [put_ne _ _ (by rintro rfl; rw [hk] at hy; cases hy)] at hg
    · obtain ⟨u, hi⟩ := X.cells y c hc
      refine ⟨u, hi.sameBut hs' fun e => ?_⟩
      subst e
      obtain ⟨o, ho, hd⟩ := hi
      obtain ⟨o', _, _, ho', hd', _⟩ := hn
      rw [ho] at ho'; cases ho'; rw [hd] at hd'; cases hd'
  · exact ⟨.refl _, rfl, fun _ _ h => h, fun h => h, fun b o e _ hb => like (hs'.extBut b o (by rintro rfl; exact hb (List.mem_cons_self ..)) e), fun _ _ _ h => h, fun b o e => by
      by_cases q : b = env.locals
      · subst q; obtain ⟨o', _, _, ho', _⟩ := hn'; exact ⟨o', ho'⟩
      · exact ⟨o, hs'.extBut b o q e⟩⟩
theorem store {x : Str} {v : Value} {cv : CV} {τ : TC} {s : Shared} {E : Value → Shared → Prop} {Q : Unit → Shared → Prop} (C : Cur hB Hc τ s) (X : EnvAt hB env Γ τ s) (hv : Is τ v cv) (hk : env.kindOf x = some .local ∨ env.kindOf x = some .cell)
    (h : ∀ s', Cur hB Hc τ s' → EnvAt hB env (put Γ x cv) τ s' → Step (ownOf env) Hc Hc τ τ s s' → Q () s') : wpAny (model prog w) A (storeName env x v) Q E s := by
  have hLown : env.locals ∈ ownOf env := List.mem_cons_self ..
  rcases hk with hk | hk
  · exact storeL C X hv hk fun s' C' X' S' => h s' C' X' (S'.wide fun a ha => by rw [List.mem_singleton.mp ha]; exact hLown)
  · obtain ⟨c, u, hc, hi, hu⟩ := X.cell x hk
    have hcn := C.notCell hi
    have hcown : c ∈ ownOf env := List.mem_cons_of_mem _ (List.mem_map.mpr ⟨_, mem_of_lookup hc, rfl⟩)
    refine wpAny_storeName_cell X.fn hk hc hi fun h' hi' hs' => h _ ?_ ?_ ?_
    · exact ⟨C.pos, C.top, fun b o e => hs'.extBut b o (by rintro rfl; rw [X.new _ hcown] at e; cases e) (C.base b o e), C.bsep,
        fun a co e => (C.hok a co e).mono (.refl _) fun o ho => hs'.extBut a o (by rintro rfl; rw [hcn] at e; cases e) ho,
        fun L hL => by
          obtain ⟨o', e, es, n, hd⟩ := C.fr L hL
          refine ⟨o', hs'.extBut L o' (fun q => ?_) e, es, n, hd⟩
          subst q
          obtain ⟨o2, ho2, hd2⟩ := hi
          rw [e] at ho2; cases ho2; rw [hd] at hd2; cases hd2⟩
    · obtain ⟨m, hn, hm⟩ := X.loc
      refine ⟨X.fn, X.glo, X.bui, X.new, X.apart, ⟨m, hn.sameBut hs' (fun e => ?_), fun y cv' hy hg => ?_⟩, fun y hy => ?_, fun y c' hc' => ?_⟩
      · subst e
        obtain ⟨o, ho, hd⟩ := hi
        obtain ⟨o', _, _, ho', hd', _⟩ := hn
        rw [ho] at ho'; cases ho'; rw [hd] at hd'; cases hd'
      · rw [put_ne _ _ (by rintro rfl; rw [hk] at hy; cases hy)] at hg; exact hm y cv' hy hg
      · by_cases e : y = x
        · subst e
          refine ⟨c, some v, hc, hi', fun cv' hg => ⟨v, rfl, ?_⟩⟩
          rw [put_self] at hg; cases hg; exact hv
        · obtain ⟨c', u', hc', hi2, hu'⟩ := X.cell y hy
          refine ⟨c', u', hc', hi2.sameBut hs' (fun q => e ?_), fun cv' hg => hu' cv' (by rwa [put_ne _ _ e] at hg)⟩
          subst q; exact X.apart _ _ _ hc' hc
      · by_cases e : c' = c
        · subst e; exact ⟨_, hi'⟩
        · obtain ⟨u', hi2⟩ := X.cells y c' hc'
          exact ⟨u', hi2.sameBut hs' e⟩
    · exact ⟨.refl _, rfl, fun _ _ h => h, fun h => h, fun b o e _ hb => like (hs'.extBut b o (by rintro rfl; exact hb hcown) e), fun _ _ _ h => h, fun b o e => by
        by_cases q : b = c
        · subst q; obtain ⟨o', ho', _⟩ := hi'; exact ⟨o', ho'⟩
        · exact ⟨o, hs'.extBut b o q e⟩⟩

/-! statements -/
theorem Ex.mono {t : Sem Flow} {Q Q' : CF → G → H → Prop} (h : Ex prog w hB A env t Γ Hc Q) (hq : ∀ f Γ' H', Q f Γ' H' → Q' f Γ' H') : Ex prog w hB A env t Γ Hc Q' :=
  fun τ s E C X => wpAny_mono (h τ s E C X) (fun _ _ ⟨cf, Γ', H', τ', a, b, c, d, e⟩ => ⟨cf, Γ', H', τ', a, b, c, d, hq _ _ _ e⟩) fun _ _ e => e
theorem Ex.nil {Q : CF → G → H → Prop} (h : Q .next Γ Hc) : Ex prog w hB A env (execs [] env) Γ Hc Q :=
  fun τ s _ C X => wpAny_execs_nil ⟨.next, Γ, Hc, τ, trivial, C, X, Step.refl _ _ _ _, h⟩
def seq (prog : Program) (w : World) (hB : BB) (A : Around) (env : Env) (rest : List Stmt) (Q : CF → G → H → Prop) (f : CF) (Γ : G) (Hc : H) : Prop :=
  match f with
  | .next => Ex prog w hB A env (execs rest env) Γ Hc Q
  | f => Q f Γ Hc
theorem Ex.cons {st : Stmt} {rest : List Stmt} {Q : CF → G → H → Prop} (h : Ex prog w hB A env (exec st env) Γ Hc (seq prog w hB A env rest Q)) : Ex prog w hB A env (execs (st :: rest) env) Γ Hc Q := by
  intro τ s E C X
  refine wpAny_execs_cons (wpAny_mono (h τ s E C X) (fun f s1 ⟨cf, Γ1, H1, τ1, hf, C1, X1, S1, k⟩ => ?_) fun _ _ e => e)
  cases f with
  | next =>
    cases cf <;> first | exact hf.elim | exact wpAny_mono (k τ1 s1 E C1 X1) (fun _ _ p => p.step S1) fun _ _ e => e
  | brk => cases cf <;> first | exact hf.elim | exact ⟨.brk, Γ1, H1, τ1, trivial, C1, X1, S1, k⟩
  | cont => cases cf <;> first | exact hf.elim | exact ⟨.cont, Γ1, H1, τ1, trivial, C1, X1, S1, k⟩
  | ret v => cases cf <;> first | exact hf.elim | exact ⟨_, Γ1, H1, τ1, hf, C1, X1, S1, k⟩
theorem Ex.one {st : Stmt} {Q : CF → G → H → Prop} (h : Ex prog w hB A env (exec st env) Γ Hc Q) : Ex prog w hB A env (execs [st] env) Γ Hc Q :=
  Ex.cons (h.mono fun f Γ' H' q => by cases f <;> first | exact q | exact Ex.nil q)
theorem Ex.ret {e : Expr} {pos : Pos} {Q : CF → G → H → Prop} (h : Ev prog w hB A env (eval e env) Γ Hc fun cv H1 => Q (.ret cv) Γ H1) : Ex prog w hB A env (exec (.Return (some e) pos) env) Γ Hc Q := by
  intro τ s E C X
  refine wpAny_Return_some (wpAny_mono (h τ s E C X) (fun v s1 ⟨cv, H1, τ1, hv, C1, S1, p⟩ => ?_) fun _ _ e => e)
  exact ⟨.ret cv, Γ, H1, τ1, hv, C1, X.step C S1, S1.wide (by simp), p⟩
theorem Ex.if {test : Expr} {body orelse : List Stmt} {pos : Pos} {Q : CF → G → H → Prop}
    (h : Tr prog w hB A env (isTrue test env (eval test env)) Γ Hc fun b H1 => if b then Ex prog w hB A env (execs body env) Γ H1 Q else Ex prog w hB A env (execs orelse env) Γ H1 Q) :
    Ex prog w hB A env (exec (.If test body orelse pos) env) Γ Hc Q := by
  intro τ s E C X
  refine wpAny_If (wpAny_mono (h τ s E C X) (fun b s1 ⟨H1, τ1, C1, S1, p⟩ => ?_) fun _ _ e => e)
  cases b with
  | false => exact wpAny_mono (p τ1 s1 E C1 (X.step C S1)) (fun _ _ q => q.step0 S1) fun _ _ e => e
  | true => exact wpAny_mono (p τ1 s1 E C1 (X.step C S1)) (fun _ _ q => q.step0 S1) fun _ _ e => e
theorem Ex.expr {e : Expr} {pos : Pos} {Q : CF → G → H → Prop} (h : Ev prog w hB A env (eval e env) Γ Hc fun _ H1 => Q .next Γ H1)
    (hi : interactive env = false := by rfl) (hs : swapsWith e none pos.line env = pure false := by rfl) : Ex prog w hB A env (exec (.Expr e pos) env) Γ Hc Q := by
  intro τ s E C X
  refine wpAny_Expr_any (wpAny_mono (h τ s E C X) (fun v s1 ⟨cv, H1, τ1, hv, C1, S1, p⟩ => ?_) fun _ _ e => e) hi hs
  exact ⟨.next, Γ, H1, τ1, trivial, C1, X.step C S1, S1.wide (by simp), p⟩
theorem Ex.assign {x : Str} {p' : Pos} {e : Expr} {pos : Pos} {Q : CF → G → H → Prop} (h : Ev prog w hB A env (eval e env) Γ Hc fun cv H1 => Q .next (put Γ x cv) H1)
    (hk : env.kindOf x = some .local ∨ env.kindOf x = some .cell := by first | exact .inl rfl | exact .inr rfl) (hs : swapsWith e (some (.Name x p')) pos.line env = pure false := by rfl) :
    Ex prog w hB A env (exec (.Assign [.Name x p'] e pos) env) Γ Hc Q := by
  intro τ s E C X
  refine wpAny_Assign_Name (wpAny_mono (h τ s E C X) (fun v s1 ⟨cv, H1, τ1, hv, C1, S1, p⟩ => ?_) fun _ _ e => e) hs
  exact store C1 (X.step C S1) hv hk fun s2 C2 X2 S2 => ⟨.next, _, H1, τ1, trivial, C2, X2, S1.trans0 S2, p⟩
theorem Ex.aug {x : Str} {p' : Pos} {op : Operator} {e : Expr} {pos : Pos} {c0 : CV} {Q : CF → G → H → Prop} (hx : Γ x = some c0)
    (h : Ev prog w hB A env (eval e env) Γ Hc fun b H1 => Op2 prog w hB A (inplaceOp op) c0 b H1 fun cv H2 => Q .next (put Γ x cv) H2)
    (hk : env.kindOf x = some .local ∨ env.kindOf x = some .cell := by first | exact .inl rfl | exact .inr rfl) :
    Ex prog w hB A env (exec (.AugAssign (.Name x p') op e pos) env) Γ Hc Q := by
  intro τ s E C X
  refine wpAny_AugAssign_Name ?_
  have ld : ∀ Q' : Value → Shared → Prop, (∀ v, Is τ v c0 → Q' v s) → wpAny (model prog w) A (loadName env x) Q' E s := by
    intro Q' hq
    rcases hk with hk | hk
    · obtain ⟨m, hn, hm⟩ := X.loc
      obtain ⟨v, hv, hc⟩ := hm x c0 hk hx
      exact wpAny_loadName_local X.fn hk hn hv (hq v hc)
    · obtain ⟨c, v, hc, hi, hm⟩ := X.cell x hk
      obtain ⟨v', rfl, hv⟩ := hm c0 hx
      exact wpAny_loadName_cell X.fn hk hc hi (hq v' hv)
  refine ld _ fun old hold => ?_
  refine wpAny_mono (h τ s E C X) (fun b s1 ⟨cb, H1, τ1, hb, C1, S1, k⟩ => ?_) fun _ _ e => e
  refine wpAny_mono (k τ1 old b (hold.mono S1.tc) hb s1 E C1) (fun r s2 ⟨cv, H2, τ2, hv, C2, S2, p⟩ => ?_) fun _ _ e => e
  exact store C2 (X.step C (S1.trans0 S2)) hv hk fun s3 C3 X3 S3 => ⟨.next, _, H2, τ2, trivial, C3, X3, (S1.trans0 S2).trans0 S3, p⟩
section
variable {ca cb : CV} {a b : Int} {P : CV → H → Prop}
theorem Op2.iadd (h : P (.i (a + b)) Hc) (ha : intOf ca = some a := by rfl) (hb : intOf cb = some b := by rfl) : Op2 prog w hB A (inplaceOp .Add) ca cb Hc P := Op2.ints ha hb h fun _ _ _ _ _ k => PyProof.Rows.iadd_int k
theorem Op2.isub (h : P (.i (a - b)) Hc) (ha : intOf ca = some a := by rfl) (hb : intOf cb = some b := by rfl) : Op2 prog w hB A (inplaceOp .Sub) ca cb Hc P := Op2.ints ha hb h fun _ _ _ _ _ k => PyProof.Rows.isub_int k
theorem Op2.ior (h : P (.i (Builtin.bitOr a b)) Hc) (ha : intOf ca = some a := by rfl) (hb : intOf cb = some b := by rfl) : Op2 prog w hB A (inplaceOp .BitOr) ca cb Hc P := Op2.ints ha hb h fun _ _ _ _ _ k => PyProof.Rows.ior_int k
theorem Op2.ishl (h0 : 0 ≤ b) (hz : (Builtin.Int.intBits a : Int) + b ≤ 2 ^ 27) (h : P (.i (a * 2 ^ b.toNat)) Hc) (ha : intOf ca = some a := by rfl) (hb : intOf cb = some b := by rfl) : Op2 prog w hB A (inplaceOp .LShift) ca cb Hc P :=
  Op2.ints ha hb h fun _ _ _ _ _ k => PyProof.Rows.ilshift_int h0 hz k
end

/-- a turn's end -/
def turnEnd (J : G → H → Prop) (Q : CF → G → H → Prop) (f : CF) (Γ : G) (Hc : H) : Prop :=
  match f with
  | .next => J Γ Hc
  | .cont => J Γ Hc
  | .brk => Q .next Γ Hc
  | .ret v => Q (.ret v) Γ Hc

/-! while -/
theorem Ex.while {test : Expr} {body : List Stmt} {pos : Pos} {Q : CF → G → H → Prop} (Inv : Nat → G → H → Prop) (n : Nat) (h0 : Inv n Γ Hc)
    (turn : ∀ n Γ' H', Inv n Γ' H' → Tr prog w hB A env (isTrue test env (eval test env)) Γ' H' fun b H1 =>
      if b then Ex prog w hB A env (execs body env) Γ' H1 (turnEnd (fun Γ'' H'' => ∃ m, m < n ∧ Inv m Γ'' H'') Q) else Q .next Γ' H1) : Ex prog w hB A env (exec (.While test body [] pos) env) Γ Hc Q := by
  intro τ s E C X
  refine wpAny_While ?_
  refine codeAny_whileLoop (R := fun r s' => match r with | .ok f => PostX hB env Hc τ s Q f s' | .error e => cameBackBy (model prog w) A env E e s')
    (fun n s' => ∃ Γ' H' τ', Inv n Γ' H' ∧ Cur hB H' τ' s' ∧ EnvAt hB env Γ' τ' s' ∧ Step (ownOf env) Hc H' τ τ' s s') ?_ n ⟨Γ, Hc, τ, h0, C, X, Step.refl _ _ _ _⟩
  rintro n s1 ⟨Γ1, H1, τ1, hI, C1, X1, S1⟩
  refine wpAny_mono (turn n Γ1 H1 hI τ1 s1 _ C1 X1) (fun b s2 ⟨H2, τ2, C2, S2, k⟩ => ?_) fun _ _ e => e
  have X2 := X1.step C1 S2
  have S12 : Step (ownOf env) Hc H2 τ τ2 s s2 := S1.transOwn (S2.wide (by simp))
  cases b with
  | false => exact wpAny_execs_nil ⟨.next, Γ1, H2, τ2, trivial, C2, X2, S12, k⟩
  | true =>
    refine wpAny_mono (k τ2 s2 _ C2 X2) (fun f s3 ⟨cf, Γ3, H3, τ3, hf, C3, X3, S3, q⟩ => ?_) fun _ _ e => e
    have S13 := S12.transOwn S3
    cases f with
    | next => cases cf <;> first | exact hf.elim | (obtain ⟨m, hm, hI'⟩ := q; exact ⟨m, hm, Γ3, H3, τ3, hI', C3, X3, S13⟩)
    | cont => cases cf <;> first | exact hf.elim | (obtain ⟨m, hm, hI'⟩ := q; exact ⟨m, hm, Γ3, H3, τ3, hI', C3, X3, S13⟩)
    | brk => cases cf <;> first | exact hf.elim | exact ⟨.next, Γ3, H3, τ3, trivial, C3, X3, S13, q⟩
    | ret v => cases cf <;> first | exact hf.elim | exact ⟨_, Γ3, H3, τ3, hf, C3, X3, S13, q⟩
end
end Mine

set_option maxRecDepth 100000
set_option maxHeartbeats 1000000
namespace Mine
/-! what a loop goes over -/
inductive Src where
  | list (l : Addr) (xs : List CV)
  | range (a : Int) (n : Nat)
def Src.items : Src → List CV
  | .list _ xs => xs
  | .range a n => (List.range n).map fun (i : Nat) => CV.i (a + i)
def Src.ok (Hc : H) : Src → Prop
  | .list l xs => Hc l = some (.list xs)
  | .range .. => True
def Src.at (h : Heap) (it : Addr) (i : Nat) : Src → Prop
  | .list l _ => h.IsListIter it l i
  | .range a n => IsRangeIter h it (a + i) ((n : Int) - i) 1
theorem Src.at.alive {h : Heap} {it : Addr} {i : Nat} {S : Src} (x : S.at h it i) : ∃ o, h.get? it = some o ∧ ∃ vs, o.data = .fields vs := by
  cases S with
  | list l xs => obtain ⟨o, ho, _, hd⟩ := x; exact ⟨o, ho, _, hd⟩
  | range a n => exact ⟨_, x, _, rfl⟩
theorem Src.at.mono {h h' : Heap} {it : Addr} {i : Nat} {S : Src} (x : S.at h it i) (k : ∀ o, h.get? it = some o → (∀ es n, o.data ≠ .dict es n) → h'.get? it = some o) : S.at h' it i := by
  cases S with
  | list l xs => obtain ⟨o, ho, r⟩ := x; exact ⟨o, k o ho (by intro _ _ e; rw [r.2] at e; cases e), r⟩
  | range a n => exact k _ x (by intro _ _ e; cases e)

section
variable {prog : Program} {w : World} {hB : BB} {A : Around} {env : Env} {Γ : G} {Hc : H} {mg mb : Str → Option Value}

theorem Src.next {τ : TC} {s : Shared} {S : Src} {it : Addr} {i : Nat} {x : CV} {Q : Option Value → Shared → Prop} {E : Value → Shared → Prop} (C : Cur hB Hc τ s) (ok : S.ok Hc) (a : S.at s.heap it i) (hx : S.items[i]? = some x)
    (h : ∀ v h' tk τ', s.toks ≤ tk → TC.le τ τ' → τ'.b ≤ tk → Is τ' v x → Heap.SameBut it s.heap h' → S.at h' it (i + 1) → Q (some v) { s with heap := h', toks := tk }) : wpAny (model prog w) A (pyNext (.ref it)) Q E s := by
  cases S with
  | list l xs =>
    obtain ⟨vs, hL, hv⟩ := C.hok l _ ok
    obtain ⟨v, hv1, hv2⟩ := hv.get hx
    exact wpAny_pyNext_list_item a hL.isList (x := v) (by simpa using hv1) fun h' hit hs => h v h' s.toks τ (Nat.le_refl _) (.refl _) C.top hv2 hs hit
  | range b n =>
    have hlt : i < n := by
      rcases Nat.lt_or_ge i n with h | h
      · exact h
      · have : (Src.range b n).items[i]? = Option.none := by simp [Src.items, h]
        rw [this] at hx; cases hx
    have hx' : x = .i (b + i) := by
      have : (Src.range b n).items[i]? = some (.i (b + i)) := by simp [Src.items, hlt]
      rw [this] at hx; exact (Option.some.inj hx).symm
    subst hx'
    refine wpAny_pyNext_range_item a (by (clear h; omega)) fun h' hit hs => h _ h' _ (τ.mk1 s.toks (b + i)) (Nat.le_succ _) (TC.le.mk1 _ C.top) (Nat.le_refl _) ⟨rfl, Nat.ne_of_gt (Nat.lt_of_lt_of_le C.pos C.top), Nat.lt_succ_self _, by simp [TC.mk1]⟩ hs ?_
    have e1 : b + (i : Int) + 1 = b + ((i + 1 : Nat) : Int) := by (clear hlt h; omega)
    have e2 : (n : Int) - i - 1 = (n : Int) - ((i + 1 : Nat) : Int) := by (clear hlt h e1; omega)
    rw [e1, e2] at hit
    exact hit
theorem Src.end {τ : TC} {s : Shared} {S : Src} {it : Addr} {Q : Option Value → Shared → Prop} {E : Value → Shared → Prop} (hh : A.handled = none) (C : Cur hB Hc τ s) (ok : S.ok Hc) (a : S.at s.heap it S.items.length)
    (h : ∀ h', Heap.ExtBut it s.heap h' → Q none { s with heap := h' }) : wpAny (model prog w) A (pyNext (.ref it)) Q E s := by
  cases S with
  | list l xs =>
    obtain ⟨vs, hL, hv⟩ := C.hok l _ ok
    have hlen := hv.len
    exact wpAny_pyNext_list_end hh a hL.isList (by simp [Src.items, hlen]) h
  | range b n =>
    refine wpAny_pyNext_range_end hh a ?_ h
    simp [Src.items]
theorem Src.self {s : Shared} {S : Src} {it : Addr} {i : Nat} {Q : Value → Shared → Prop} {E : Value → Shared → Prop} (hh : A.handled = none) (a : S.at s.heap it i) (h : Q (.ref it) s) : wpAny (model prog w) A (pyIter (.ref it)) Q E s := by
  cases S with
  | list l xs => exact wpAny_pyIter_listiter a h
  | range b n => exact (Walks.range (prog := prog) (w := w) (A := A) hh it b 1 n).self i s Q E (by show IsRangeIter _ _ _ _ _; rw [Int.mul_one]; exact a) h

/-- a change at an object that is nobody's -/
theorem Cur.off {τ τ' : TC} {s : Shared} {h' : Heap} {a : Addr} (C : Cur hB Hc τ s) (hs : Heap.ExtBut a s.heap h') (h1 : Hc a = none) (h2 : hB.off a) (t : TC.le τ τ') {tk : Nat} (ht : τ'.b ≤ tk) : Cur hB Hc τ' { s with heap := h', toks := tk } :=
  ⟨Nat.le_trans C.pos t.1, ht, fun b o e => hs b o (by rintro rfl; rw [h2.1] at e; cases e) (C.base b o e), C.bsep, fun b co e => (C.hok b co e).mono t fun o ho => hs b o (by rintro rfl; rw [h1] at e; cases e) ho, fun L hL => let ⟨o', e, d⟩ := C.fr L hL; ⟨o', hs L o' (fun q => h2.2 (q ▸ hL)) e, d⟩⟩
theorem EnvAt.off {τ τ' : TC} {s : Shared} {h' : Heap} {a : Addr} (X : EnvAt hB env Γ τ s) (hs : Heap.ExtBut a s.heap h') (h1 : a ∉ ownOf env) (t : TC.le τ τ') (tk : Nat) : EnvAt hB env Γ τ' { s with heap := h', toks := tk } :=
  X.keeps t fun b hb o e => like (hs b o (by rintro rfl; exact h1 hb) e)
theorem Step.off {own : List Addr} {H0 H1 : H} {τ0 τ τ' : TC} {s0 s : Shared} {h' : Heap} {a : Addr} (S : Step own H0 H1 τ0 τ s0 s) (hs : Heap.ExtBut a s.heap h') (h1 : s0.heap.get? a = none) (t : TC.le τ τ') (tk : Nat) : Step own H0 H1 τ0 τ' s0 { s with heap := h', toks := tk } where
  tc := S.tc.trans t
  os := S.os
  gens := S.gens
  bare := S.bare
  keep := fun b o e hn hb => let ⟨o', e', l⟩ := S.keep b o e hn hb; ⟨o', hs b o' (by rintro rfl; rw [h1] at e; cases e) e', l⟩
  sep := S.sep
  alive := fun b o e => let ⟨o', e'⟩ := S.alive b o e; ⟨o', hs b o' (by rintro rfl; rw [h1] at e; cases e) e'⟩
theorem notOwn {τ : TC} {s : Shared} (X : EnvAt hB env Γ τ s) {a : Addr} (h : s.heap.get? a = none) : a ∉ ownOf env := fun hm => by
  obtain ⟨o, e⟩ := X.alive a hm; rw [h] at e; cases e
theorem Step.dead {own : List Addr} {H0 H1 : H} {τ0 τ : TC} {s0 s : Shared} (S : Step own H0 H1 τ0 τ s0 s) {a : Addr} (h : s.heap.get? a = none) : s0.heap.get? a = none := by
  cases e : s0.heap.get? a with
  | none => rfl
  | some o => obtain ⟨o', e'⟩ := S.alive a o e; rw [h] at e'; cases e'
theorem Cur.baseDead {τ : TC} {s : Shared} (C : Cur hB Hc τ s) {a : Addr} (h : s.heap.get? a = none) : hB.off a := by
  refine ⟨?_, fun hm => ?_⟩
  · cases e : hB.get? a with
    | none => rfl
    | some o => rw [C.base a o e] at h; cases h
  · obtain ⟨o, e, _⟩ := C.fr a hm; rw [h] at e; cases e

def It (prog : Program) (w : World) (hB : BB) (A : Around) (env : Env) (iter : Expr) (Γ : G) (Hc : H) (P : Src → H → Prop) : Prop :=
  ∀ (τ : TC) (s : Shared) (E : Value → Shared → Prop), Cur hB Hc τ s → EnvAt hB env Γ τ s →
    wpAny (model prog w) A (eval iter env) (fun x s1 => wpAny (model prog w) A (pyIter x) (fun itv s2 => ∃ it S H1 τ2, itv = .ref it ∧ Cur hB H1 τ2 s2 ∧ Step [] Hc H1 τ τ2 s s2 ∧
      s.heap.get? it = none ∧ H1 it = none ∧ hB.off it ∧ S.ok H1 ∧ S.at s2.heap it 0 ∧ P S H1) E s1) E s
theorem It.list {iter : Expr} {P : Src → H → Prop} (h : Ev prog w hB A env (eval iter env) Γ Hc fun v H1 => ∃ l xs, v = .r l ∧ H1 l = some (.list xs) ∧ P (.list l xs) H1) : It prog w hB A env iter Γ Hc P := by
  intro τ s E C X
  refine wpAny_mono (h τ s E C X) (fun v s1 ⟨cv, H1, τ1, hv, C1, S1, l, xs, e, hl, p⟩ => ?_) fun _ _ e => e
  subst e
  rw [is_r hv]
  obtain ⟨vs, hL, hvs⟩ := C1.hok l _ hl
  refine wpAny_pyIter_list hL.isList ?_
  have hd := fresh_none s1.heap
  obtain ⟨C2, S2⟩ := C1.grow (h' := s1.heap.push { cls := .type "list_iterator", data := .fields #[.ref l, .int 0 0] }) (fun b o e => Heap.get?_push_of_some _ e) (Nat.le_refl s1.toks)
  exact ⟨_, .list l xs, H1, τ1, rfl, C2, S1.trans0 S2, S1.dead hd, C1.new hd, C1.baseDead hd, hl, ⟨_, Heap.get?_push_size _ rfl, rfl, rfl⟩, p⟩
theorem name_range {pos : Pos} {τ : TC} {s : Shared} {E Q : Value → Shared → Prop} (L : Gl hB mg mb) (C : Cur hB Hc τ s) (X : EnvAt hB env Γ τ s) (hk : env.kindOf "range" = some .globalImplicit) (hm : mg "range" = none)
    (h : Q (.type "range") s) : wpAny (model prog w) A (eval (.Name "range" pos) env) Q E s :=
  name_builtin L C X hk hm (by kernel_rfl) (by decide) h (by decide)
theorem range_end {τ τ1 : TC} {s s1 : Shared} {H1 : H} {P : Src → H → Prop} {E : Value → Shared → Prop} {a b : Int} {t u v : Tok} {tk : Nat} (T1 : s1.toks ≤ tk) (C1 : Cur hB H1 τ1 s1) (S1 : Step [] Hc H1 τ τ1 s s1) (ha : -(2 ^ 62) ≤ a) (ha' : a < 2 ^ 62) (hb : -(2 ^ 62) ≤ b) (hb' : b < 2 ^ 62) (p : P (.range a (b - a).toNat) H1) :
    wpAny (model prog w) A (pyIter (.ref s1.heap.objs.size)) (fun itv s2 => ∃ it S H1 τ2, itv = .ref it ∧ Cur hB H1 τ2 s2 ∧ Step [] Hc H1 τ τ2 s s2 ∧
      s.heap.get? it = none ∧ H1 it = none ∧ hB.off it ∧ S.ok H1 ∧ S.at s2.heap it 0 ∧ P S H1) E { s1 with heap := s1.heap.push { cls := .type "range", data := .fields #[.int a t, .int b u, .int 1 v] }, toks := tk } := by
  obtain ⟨C2, S2⟩ := C1.grow (h' := s1.heap.push { cls := .type "range", data := .fields #[.int a t, .int b u, .int 1 v] }) (fun b o e => Heap.get?_push_of_some _ e) T1
  refine wpAny_pyIter_range (IsRange.new ..) (small_one ha ha' hb hb') ?_
  have hd := fresh_none (s1.heap.push { cls := .type "range", data := .fields #[.int a t, .int b u, .int 1 v] })
  obtain ⟨C3, S3⟩ := C2.grow (h' := (s1.heap.push { cls := .type "range", data := .fields #[.int a t, .int b u, .int 1 v] }).push { cls := .type "range_iterator", data := .fields #[rawInt a, rawInt (Builtin.Range.rangeSize a b 1), rawInt 1] }) (fun b o e => Heap.get?_push_of_some _ e) (Nat.le_refl tk)
  refine ⟨_, .range a (b - a).toNat, H1, τ1, rfl, C3, (S1.trans0 S2).trans0 S3, (S1.trans0 S2).dead hd, C2.new hd, C2.baseDead hd, trivial, ?_, p⟩
  have e1 : a + ((0 : Nat) : Int) = a := by simp
  have e2 : (((b - a).toNat : Nat) : Int) - ((0 : Nat) : Int) = Builtin.Range.rangeSize a b 1 := by rw [rangeSize_one]; split <;> (clear T1 ha ha' hb hb' e1; omega)
  show IsRangeIter _ _ _ _ _
  rw [e1, e2]
  exact Heap.get?_push_size _ rfl
theorem It.range1 {np pos : Pos} {e : Expr} {P : Src → H → Prop} (L : Gl hB mg mb) (hm : mg "range" = none)
    (h : Ev prog w hB A env (eval e env) Γ Hc fun v H1 => ∃ n, intOf v = some n ∧ -(2 ^ 62) ≤ n ∧ n < 2 ^ 62 ∧ P (.range 0 n.toNat) H1)
    (hk : env.kindOf "range" = some .globalImplicit := by rfl) (hse : backTo pos (starEach [e] env) = [(false, eval e env)] := by rfl) :
    It prog w hB A env (.Call (.Name "range" np) [e] [] pos) Γ Hc P := by
  intro τ s E C X
  refine wpAny_Call_NameR (name_range L C X hk hm ?_)
  rw [hse]
  refine PySem.callWith_type rfl (evalArgs_plain (spliced_cons (wpAny_mono (h τ s E C X) (fun v s1 ⟨cv, H1, τ1, hv, C1, S1, n, hn, h1, h2, p⟩ => spliced_nil ?_) fun _ _ e => e)))
  obtain ⟨t, rfl⟩ := is_int hv hn
  exact call_range_1 (range_end (by (clear h1 h2; omega)) C1 S1 (by decide) (by decide) h1 h2 (by simpa using p))
theorem It.range2 {np pos : Pos} {e f : Expr} {P : Src → H → Prop} (L : Gl hB mg mb) (hm : mg "range" = none)
    (h : Ev prog w hB A env (eval e env) Γ Hc fun u H1 => Ev prog w hB A env (eval f env) Γ H1 fun v H2 => ∃ a b, intOf u = some a ∧ intOf v = some b ∧ -(2 ^ 62) ≤ a ∧ a < 2 ^ 62 ∧ -(2 ^ 62) ≤ b ∧ b < 2 ^ 62 ∧ P (.range a (b - a).toNat) H2)
    (hk : env.kindOf "range" = some .globalImplicit := by rfl) (hse : backTo pos (starEach [e, f] env) = [(false, eval e env), (false, eval f env)] := by rfl) :
    It prog w hB A env (.Call (.Name "range" np) [e, f] [] pos) Γ Hc P := by
  intro τ s E C X
  refine wpAny_Call_NameR (name_range L C X hk hm ?_)
  rw [hse]
  refine PySem.callWith_type rfl (evalArgs_plain (spliced_cons (wpAny_mono (h τ s E C X) (fun u s1 ⟨cu, H1, τ1, hu, C1, S1, k⟩ => ?_) fun _ _ e => e)))
  refine spliced_cons (wpAny_mono (k τ1 s1 E C1 (X.step C S1)) (fun v s2 ⟨cv, H2, τ2, hv, C2, S2, a, b, ea, eb, h1, h2, h3, h4, p⟩ => spliced_nil ?_) fun _ _ e => e)
  obtain ⟨t, rfl⟩ := is_int hu ea
  obtain ⟨t', rfl⟩ := is_int hv eb
  exact call_range_2 (range_end (by (clear h1 h2 h3 h4; omega)) C2 (S1.trans0 S2) h1 h2 h3 h4 p)

/-- for x in iter: body -/
theorem Ex.for {x : Str} {px pos : Pos} {iter : Expr} {body : List Stmt} {Q : CF → G → H → Prop} (hR : Room hB 0 A)
    (h : It prog w hB A env iter Γ Hc fun S H1 => ∃ Inv : Nat → G → H → Prop, Inv 0 Γ H1 ∧
      (∀ i xi Γ' H', S.items[i]? = some xi → S.ok H' → Inv i Γ' H' → Ex prog w hB A env (execs body env) (put Γ' x xi) H' (turnEnd (fun Γ'' H'' => S.ok H'' ∧ Inv (i + 1) Γ'' H'') Q)) ∧
      (∀ Γ' H', Inv S.items.length Γ' H' → Q .next Γ' H'))
    (hk : env.kindOf x = some .local ∨ env.kindOf x = some .cell := by first | exact .inl rfl | exact .inr rfl)
    (hs : ∀ x, foldedSetIterable iter env x = pure x := by intro _; rfl) : Ex prog w hB A env (exec (.For (.Name x px) iter body [] pos) env) Γ Hc Q := by
  intro τ s E C X
  refine wpAny_For (wpAny_mono (h τ s E C X) (fun xv s1 h1 => wpAny_mono h1 (fun itv s2 h2 => ?_) fun _ _ e => e) fun _ _ e => e) hs
  obtain ⟨it, S, H1, τ2, rfl, C2, S2, hit0, hitH, hitB, ok, at0, Inv, hI0, turn, done⟩ := h2
  have X2 := X.step C S2
  have hown : it ∉ ownOf env := notOwn X hit0
  refine codeAny_forLoop (R := fun r s' => match r with | .ok f => PostX hB env Hc τ s Q f s' | .error e => cameBackBy (model prog w) A env E e s')
    (fun n s' => ∃ i Γ' H' τ', n = S.items.length - i ∧ i ≤ S.items.length ∧ Inv i Γ' H' ∧ Cur hB H' τ' s' ∧ EnvAt hB env Γ' τ' s' ∧ Step (ownOf env) Hc H' τ τ' s s' ∧ S.ok H' ∧ S.at s'.heap it i ∧ H' it = none)
    ?_ S.items.length ⟨0, Γ, H1, τ2, rfl, Nat.zero_le _, hI0, C2, X2, S2.wide (by simp), ok, at0, hitH⟩
  rintro n s3 ⟨i, Γ3, H3, τ3, rfl, hi, hI, C3, X3, S3, ok3, at3, hn3⟩
  rcases Nat.lt_or_ge i S.items.length with hlt | hge
  · have hx : S.items[i]? = some S.items[i] := List.getElem?_eq_getElem hlt
    refine Src.next C3 ok3 at3 hx fun v h' tk τ4 htk ht4 hb4 hv hs4 at4 => ?_
    have C4 := C3.off hs4.extBut hn3 hitB ht4 hb4
    have X4 := X3.off hs4.extBut hown ht4 tk
    have S4 := S3.off hs4.extBut hit0 ht4 tk
    refine wpAny_assign_Name (store C4 X4 hv hk fun s5 C5 X5 S5 => ?_)
    have at5 := at4.mono (h' := s5.heap) fun o e nd => S5.keepS it o e nd hn3 hown
    refine wpAny_mono (turn i _ Γ3 H3 hx ok3 hI τ4 s5 _ C5 X5) (fun f s6 ⟨cf, Γ6, H6, τ6, hf, C6, X6, S6, q⟩ => ?_) fun _ _ e => e
    have at6 := at5.mono (h' := s6.heap) fun o e nd => S6.keepS it o e nd hn3 hown
    obtain ⟨o5, e5, _⟩ := at5.alive
    have hn6 := S6.sep it o5 e5 hn3
    have S06 := (S4.transOwn S5).transOwn S6
    cases f with
    | next => cases cf <;> first | exact hf.elim | exact ⟨S.items.length - (i + 1), by (clear hk hs turn done hown hi htk hb4; omega), i + 1, Γ6, H6, τ6, rfl, hlt, q.2, C6, X6, S06, q.1, at6, hn6⟩
    | cont => cases cf <;> first | exact hf.elim | exact ⟨S.items.length - (i + 1), by (clear hk hs turn done hown hi htk hb4; omega), i + 1, Γ6, H6, τ6, rfl, hlt, q.2, C6, X6, S06, q.1, at6, hn6⟩
    | brk => cases cf <;> first | exact hf.elim | exact ⟨.next, Γ6, H6, τ6, trivial, C6, X6, S06, q⟩
    | ret v => cases cf <;> first | exact hf.elim | exact ⟨_, Γ6, H6, τ6, hf, C6, X6, S06, q⟩
  · have hie : i = S.items.length := Nat.le_antisymm hi hge
    subst hie
    refine Src.end hR.1 C3 ok3 at3 fun h' hs4 => ?_
    exact wpAny_execs_nil ⟨.next, Γ3, H3, τ3, trivial, C3.off hs4 hn3 hitB (.refl _) C3.top, X3.off hs4 hown (.refl _) _, S3.off hs4 hit0 (.refl _) _, done _ _ hI⟩
end
end Mine

set_option maxRecDepth 100000
set_option maxHeartbeats 1000000
namespace Mine
def compG (scope : Scope) (env : Env) (Γ : G) : G := fun y => if (relabel scope env).names.lookup y = some .cell then Γ y else none
theorem mem_of_lookupK : ∀ {l : List (Str × NameKind)} {n : Str} {k : NameKind}, l.lookup n = some k → (n, k) ∈ l := fun h => mem_of_lookup h
section
variable {prog : Program} {w : World} {hB : BB} {A : Around} {env : Env} {Γ : G} {Hc : H} {mg mb : Str → Option Value}

theorem EnvAt.weaken {Γ' : G} {τ : TC} {s : Shared} (X : EnvAt hB env Γ τ s) (h : ∀ y cv, Γ' y = some cv → Γ y = some cv) : EnvAt hB env Γ' τ s where
  fn := X.fn
  glo := X.glo
  bui := X.bui
  new := X.new
  apart := X.apart
  loc := let ⟨m, hn, hm⟩ := X.loc; ⟨m, hn, fun x cv hk hx => hm x cv hk (h x cv hx)⟩
  cell := fun x hx => let ⟨c, v, hc, hi, hv⟩ := X.cell x hx; ⟨c, v, hc, hi, fun cv e => hv cv (h x cv e)⟩
  cells := X.cells

structure CompOk (env : Env) (scope : Scope) (cl : List (Str × Addr)) (x : Str) : Prop where
  clos : closureFor scope env = pure cl
  kind : scope.kind = .function
  nocell : ∀ y ∈ scope.names, y.2 ≠ .cell
  names : ∀ y ∈ scope.names, y.2 = .local → scope.names.lookup y.1 = some .local
  clin : ∀ p ∈ cl, env.cells.lookup p.1 = some p.2
  free : (relabel scope env).names.all (fun p => p.2 != .cell || ((cl.lookup p.1).isSome && env.kindOf p.1 == some .cell)) = true
  var : scope.names.lookup x = some .local

theorem compEnv_at {scope : Scope} {cl : List (Str × Addr)} {x : Str} {C : Addr} {m : Str → Option Value} {τ : TC} {s : Shared} (K : CompOk env scope cl x) (X : EnvAt hB env Γ τ s) (hn : s.heap.Ns C m) (hC : hB.get? C = none) :
    EnvAt hB (compEnvC scope cl C env) (compG scope env Γ) τ s where
  fn := K.kind
  glo := X.glo
  bui := X.bui
  new := fun a ha => by
    rcases List.mem_cons.mp ha with rfl | ha
    · exact hC
    · obtain ⟨p, hp, rfl⟩ := List.mem_map.mp ha
      exact X.new _ (List.mem_cons_of_mem _ (List.mem_map.mpr ⟨_, mem_of_lookup (K.clin p hp), rfl⟩))
  apart := fun y z c hy hz => X.apart y z c (K.clin _ (mem_of_lookup hy)) (K.clin _ (mem_of_lookup hz))
  loc := ⟨m, hn, fun y cv hk hy => by
    have hk' : (relabel scope env).names.lookup y = some .local := hk
    unfold compG at hy
    rw [hk'] at hy
    simp at hy⟩
  cell := fun y hk => by
    have hk' : (relabel scope env).names.lookup y = some .cell := hk
    have hf := List.all_eq_true.mp K.free (y, NameKind.cell) (mem_of_lookupK hk')
    simp only [bne_self_eq_false, Bool.false_or, Bool.and_eq_true, beq_iff_eq] at hf
    obtain ⟨c, hc⟩ := Option.isSome_iff_exists.mp hf.1
    obtain ⟨c', v, hc', hi, hv⟩ := X.cell y hf.2
    have := K.clin _ (mem_of_lookup hc)
    rw [hc'] at this
    cases this
    refine ⟨c, v, hc, hi, fun cv hg => hv cv ?_⟩
    unfold compG at hg
    rw [if_pos hk'] at hg
    exact hg
  cells := fun y c hc => X.cells y c (mem_of_lookup (K.clin _ hc))

theorem kind_off {τ : TC} {s : Shared} (X : EnvAt hB env Γ τ s) {a : Addr} {o : Obj} (ho : s.heap.get? a = some o) (h1 : ∀ es n, o.data ≠ .dict es n) (h2 : ∀ v, o.data ≠ .cell v) : a ∉ ownOf env := by
  intro ha
  rcases List.mem_cons.mp ha with rfl | ha
  · obtain ⟨m, ⟨o', _, _, ho', hd, _⟩, _⟩ := X.loc
    rw [ho] at ho'; cases ho'; exact h1 _ _ hd
  · obtain ⟨⟨y, c⟩, hp, rfl⟩ := List.mem_map.mp ha
    obtain ⟨v, o', ho', hd⟩ := X.cells y c hp
    rw [ho] at ho'; cases ho'; exact h2 _ hd

theorem Cur.take {τ : TC} {s : Shared} {a : Addr} {co : CO} (C : Cur hB Hc τ s) (h : Holds τ s.heap a co) (hb : hB.off a) : Cur hB (upd Hc a co) τ s :=
  ⟨C.pos, C.top, C.base, fun b o e => by rw [upd_ne _ _ (by rintro rfl; rw [hb.1] at e; cases e)]; exact C.bsep b o e, fun b co' e => by
    by_cases q : b = a
    · subst q; rw [upd_self] at e; cases e; exact h
    · rw [upd_ne _ _ q] at e; exact C.hok b co' e, C.fr⟩
theorem Step.take {own : List Addr} {H0 H1 : H} {τ0 τ : TC} {s0 s : Shared} {a : Addr} {co : CO} (S : Step own H0 H1 τ0 τ s0 s) (h : s0.heap.get? a = none) : Step own H0 (upd H1 a co) τ0 τ s0 s :=
  ⟨S.tc, S.os, S.gens, S.bare, S.keep, fun b o e hn => by rw [upd_ne _ _ (by rintro rfl; rw [h] at e; cases e)]; exact S.sep b o e hn, S.alive⟩

/-- the tests of a comprehension -/
def Tests (prog : Program) (w : World) (hB : BB) (A : Around) (env : Env) (ifs : List Expr) (Γ : G) (Hc : H) (P : Bool → H → Prop) : Prop :=
  match ifs with
  | [] => P true Hc
  | [c] => Tr prog w hB A env (isTrue c env (eval c env)) Γ Hc P
  | _ => False
theorem tests_run {ifs : List Expr} {P : Bool → H → Prop} {τ : TC} {s : Shared} {E : Value → Shared → Prop} (h : Tests prog w hB A env ifs Γ Hc P) (C : Cur hB Hc τ s) (X : EnvAt hB env Γ τ s) :
    wpAny (model prog w) A (forIn ifs true fun c r => if r = true then do let ok ← isTrue c env (eval c env); pure (ForInStep.yield ok) else pure (ForInStep.yield r)) (PostB hB Hc τ s P) E s := by
  match ifs, h with
  | [], h => exact wpAny_tests_nil ⟨Hc, τ, C, Step.refl _ _ _ _, h⟩
  | [c], h => exact wpAny_tests_one (h τ s E C X)

def lastTurn (elt target iter : Expr) (ifs : List Expr) (e : Expr) (d : Nat) (it acc : Value) (env : Env) : Sem Fin := do
  standAt iter.pos
  match ← pyNext it with
  | none => pure (.done .next)
  | some v =>
    letOwnedTupleGo target it v
    assign target env v
    let mut ok := true
    for c in ifs do
      if ok then ok ← isTrue c env (eval c env)
    if ok then
      (do let _ ← call (.builtin "list.append") [acc, ← eval elt env])
    again (.compLoop e d it acc env)

/-- what the loop's state is, between two turns -/
structure Lp (hB : BB) (env cenv : Env) (Γ Γx : G) (D it : Addr) (S : Src) (i : Nat) (ys : List CV) (H' : H) (τ : TC) (s : Shared) : Prop where
  cur : Cur hB H' τ s
  out : EnvAt hB env Γ τ s
  inn : EnvAt hB cenv Γx τ s
  ok : S.ok H'
  src : S.at s.heap it i
  itN : H' it = none
  acc : ∃ vs : List Value, s.heap.PlainList D vs.toArray ∧ AllIs τ vs ys
  accN : H' D = none

theorem compG_local {scope : Scope} {x : Str} (hx : scope.names.lookup x = some .local) : compG scope env Γ x = none := by
  unfold compG
  rw [show (relabel scope env).names.lookup x = some .local from lookup_relabel_local hx]
  simp

/-- the innermost loop -/
theorem loop_last {cenv : Env} {Γx : G} {elt elt' iter : Expr} {gens : List Comprehension} {x : Str} {px : Pos} {ifs : List Expr} {scope : Scope} {pos : Pos} {D it : Addr} {S : Src} {τ : TC} {s : Shared} {H0 : H} {d : Nat} {R : Result → Shared → Prop}
    (Inv : Nat → List CV → H → Prop) {ys0 : List CV}
    (ht : compTurn (.ListComp elt' gens scope pos) d (.ref it) (.ref D) cenv = lastTurn elt (.Name x px) iter ifs (.ListComp elt' gens scope pos) d (.ref it) (.ref D) cenv)
    (hh : A.handled = none) (hkx : cenv.kindOf x = some .local) (hxN : Γx x = none)
    (hDB : hB.off D) (hiB : hB.off it) (hCo : cenv.locals ∉ ownOf env)
    (hI : Inv 0 ys0 H0) (L : Lp hB env cenv Γ Γx D it S 0 ys0 H0 τ s)
    (turn : ∀ i xi ys H', S.items[i]? = some xi → S.ok H' → Inv i ys H' → ys.length ≤ 900000 ∧ Tests prog w hB A cenv ifs (put Γx x xi) H' fun b H2 =>
      if b then Ev prog w hB A cenv (eval elt cenv) (put Γx x xi) H2 fun y H3 => S.ok H3 ∧ Inv (i + 1) (ys ++ [y]) H3 else S.ok H2 ∧ Inv (i + 1) ys H2)
    (done : ∀ ys H' τ' s', Inv S.items.length ys H' → Cur hB H' τ' s' → EnvAt hB env Γ τ' s' → EnvAt hB cenv Γx τ' s' → (∃ s1 h' tk, Step [it, cenv.locals, D] H0 H' τ τ' s s1 ∧ Heap.ExtBut it s1.heap h' ∧ s' = { s1 with heap := h', toks := tk }) →
      (∃ vs : List Value, s'.heap.PlainList D vs.toArray ∧ AllIs τ' vs ys) → H' D = none → R (.ok .next) s') :
    codeAny (model prog w) A (.compLoop (.ListComp elt' gens scope pos) d (.ref it) (.ref D) cenv) R s := by
  refine codeAny_loop rfl (fun n s' => ∃ i ys H' τ', n = S.items.length - i ∧ i ≤ S.items.length ∧ Inv i ys H' ∧ Lp hB env cenv Γ Γx D it S i ys H' τ' s' ∧ Step [it, cenv.locals, D] H0 H' τ τ' s s') ?_ S.items.length
    ⟨0, ys0, H0, τ, rfl, Nat.zero_le _, hI, L, Step.refl _ _ _ _⟩
  rintro n s1 ⟨i, ys, H1, τ1, rfl, hi, hI1, L1, S1⟩
  show wpAny _ A ((compTurn (.ListComp elt' gens scope pos) d (.ref it) (.ref D) cenv).onRaise (fun x => do noteFrame x cenv; theTreesLotGoes x)) _ _ s1
  refine wpAny_noted ?_
  rw [ht]
  unfold lastTurn
  obtain ⟨vs, hpl, hvs⟩ := L1.acc
  obtain ⟨n0, hD⟩ := id hpl
  obtain ⟨oi, hoi, vi, hdi⟩ := L1.src.alive
  have hDi : D ≠ it := by rintro rfl; rw [hD] at hoi; cases hoi; cases hdi
  have hiout : it ∉ ownOf env := kind_off L1.out hoi (by intro _ _ e; rw [hdi] at e; cases e) (by intro _ e; rw [hdi] at e; cases e)
  have hiin : it ∉ ownOf cenv := kind_off L1.inn hoi (by intro _ _ e; rw [hdi] at e; cases e) (by intro _ e; rw [hdi] at e; cases e)
  have hDout : D ∉ ownOf env := kind_off L1.out hD (by intro _ _ e; cases e) (by intro _ e; cases e)
  have hDin : D ∉ ownOf cenv := kind_off L1.inn hD (by intro _ _ e; cases e) (by intro _ e; cases e)
  have hDC : D ≠ cenv.locals := fun e => hDin (e ▸ List.mem_cons_self ..)
  have hiC : it ≠ cenv.locals := fun e => hiin (e ▸ List.mem_cons_self ..)
  refine wpAny_bind (wpAny_standAt (wpAny_bind ?_))
  rcases Nat.lt_or_ge i S.items.length with hlt | hge
  · have hx : S.items[i]? = some S.items[i] := List.getElem?_eq_getElem hlt
    obtain ⟨hsz, tst⟩ := turn i _ ys H1 hx L1.ok hI1
    refine Src.next L1.cur L1.ok L1.src hx fun v h2 tk τ2 htk ht2 hb2 hv hs2 at2 => ?_
    have C2 := L1.cur.off hs2.extBut L1.itN hiB ht2 hb2
    have X2 := L1.out.off hs2.extBut hiout ht2 tk
    have Y2 := L1.inn.off hs2.extBut hiin ht2 tk
    have D2 : h2.PlainList D vs.toArray := hpl.at fun o e => hs2.extBut D o hDi e
    have St2 : Step [it, cenv.locals, D] H0 H1 τ τ2 s { s1 with heap := h2, toks := tk } := by
      refine S1.trans (own' := [it]) ⟨ht2, rfl, fun _ _ h => h, fun h => h, fun b o e _ hb => like (hs2.extBut b o (by simpa using hb) e), fun _ _ _ h => h, fun b o e => ?_⟩ (fun b _ _ hb => by simp at hb; simp [hb])
      by_cases q : b = it
      · subst q; obtain ⟨o', e', _⟩ := at2.alive; exact ⟨o', e'⟩
      · exact ⟨o, hs2.extBut b o q e⟩
    refine wpAny_bind (wpAny_of_eq (show letOwnedTupleGo (.Name x px) (.ref it) v = pure () from rfl) (wpAny_bind ?_))
    refine wpAny_assign_Name (storeL C2 Y2 hv hkx fun s3 C3 Y3 S3 => ?_)
    have at3 := at2.mono (h' := s3.heap) fun o e nd => S3.keepS it o e nd L1.itN (by simpa using hiC)
    have D3 : s3.heap.PlainList D vs.toArray := plain_at D2 fun o e nd => S3.keepS D o e nd L1.accN (by simpa using hDC)
    have X3 : EnvAt hB env Γ τ2 s3 := X2.keeps (.refl _) fun a ha o e => S3.keep a o e (X2.none C2 a ha) (by rintro q; rw [List.mem_singleton.mp q] at ha; exact hCo ha)
    have St3 : Step [it, cenv.locals, D] H0 H1 τ τ2 s s3 := St2.trans S3 (fun b _ _ hb => by simp at hb; simp [hb])
    refine wpAny_bind (wpAny_mono (tests_run tst C3 Y3) (fun ok s4 ⟨H4, τ4, C4, S4, k⟩ => ?_) fun _ _ e => e)
    have at4 := at3.mono (h' := s4.heap) fun o e nd => S4.keepS it o e nd L1.itN (by simp)
    have D4 : s4.heap.PlainList D vs.toArray := plain_at D3 fun o e nd => S4.keepS D o e nd L1.accN (by simp)
    have X4 := X3.step C3 S4
    have Y4 := Y3.step C3 S4
    have St4 : Step [it, cenv.locals, D] H0 H4 τ τ4 s s4 := St3.trans S4 (fun b _ _ hb => by simp at hb)
    obtain ⟨o3, e3, _⟩ := at3.alive
    have hi4 := S4.sep it o3 e3 L1.itN
    obtain ⟨n3, e3'⟩ := id D3
    have hD4 := S4.sep D _ e3' L1.accN
    have hv4 := (hvs.mono ht2).mono S4.tc
    have wk : ∀ τ s', EnvAt hB cenv (put Γx x S.items[i]) τ s' → EnvAt hB cenv Γx τ s' := fun τ s' Y => Y.weaken fun y cv e => by
      rw [put_ne _ _ (by rintro rfl; rw [hxN] at e; cases e)]; exact e
    cases ok with
    | false =>
      exact wpAny_pure ⟨rfl, S.items.length - (i + 1), by (clear hCo turn done hi hDi hiout hiin hDout hDin hDC hiC hsz htk hb2 wk; omega), i + 1, ys, H4, τ4, rfl, hlt, k.2, ⟨C4, X4, wk _ _ Y4, k.1, at4, hi4, ⟨vs, D4, hv4⟩, hD4⟩, St4⟩
    | true =>
      refine wpAny_bind (wpAny_bind (wpAny_mono (k τ4 s4 _ C4 Y4) (fun y s5 ⟨cy, H5, τ5, hy, C5, S5, q⟩ => ?_) fun _ _ e => e))
      have at5 := at4.mono (h' := s5.heap) fun o e nd => S5.keepS it o e nd hi4 (by simp)
      have D5 : s5.heap.PlainList D vs.toArray := plain_at D4 fun o e nd => S5.keepS D o e nd hD4 (by simp)
      have X5 := X4.step C4 S5
      have Y5 := Y4.step C4 S5
      have St5 : Step [it, cenv.locals, D] H0 H5 τ τ5 s s5 := St4.trans S5 (fun b _ _ hb => by simp at hb)
      obtain ⟨o4, e4, _⟩ := at4.alive
      have hi5 := S5.sep it o4 e4 hi4
      obtain ⟨n4, e4'⟩ := id D4
      have hD5 := S5.sep D _ e4' hD4
      refine wpAny_bind (wpAny_list_append_plain D5 (fun h6 hp6 hs6 => wpAny_pure (wpAny_pure ⟨rfl, S.items.length - (i + 1), by (clear hCo turn done hi hDi hiout hiin hDout hDin hDC hiC hsz htk hb2 wk; omega), i + 1, ys ++ [cy], H5, τ5, rfl, hlt, q.2, ?_, ?_⟩)) (by rw [List.size_toArray, hvs.len]; exact small_line (by (clear hCo turn done hi hDi hiout hiin hDout hDin hDC hiC htk hb2 wk; omega))))
      · exact ⟨C5.off hs6.extBut hD5 hDB (.refl _) C5.top, X5.off hs6.extBut hDout (.refl _) _, wk _ _ (Y5.off hs6.extBut hDin (.refl _) _), q.1, at5.mono fun o e _ => hs6.extBut it o (Ne.symm hDi) e, hi5, ⟨vs ++ [y], by simpa using hp6, (hv4.mono S5.tc).append ⟨hy, trivial⟩⟩, hD5⟩
      · refine St5.trans (own' := [D]) ⟨.refl _, rfl, fun _ _ h => h, fun h => h, fun b o e _ hb => like (hs6.extBut b o (by simpa using hb) e), fun _ _ _ h => h, fun b o e => ?_⟩ (fun b _ _ hb => by simp at hb; simp [hb])
        by_cases q : b = D
        · subst q; obtain ⟨n6, e6⟩ := hp6; exact ⟨_, e6⟩
        · exact ⟨o, hs6.extBut b o q e⟩
  · have hie : i = S.items.length := Nat.le_antisymm hi hge
    subst hie
    refine Src.end hh L1.cur L1.ok L1.src fun h2 hs2 => ?_
    exact wpAny_pure (done ys H1 τ1 _ hI1 (L1.cur.off hs2 L1.itN hiB (.refl _) L1.cur.top) (L1.out.off hs2 hiout (.refl _) _) (L1.inn.off hs2 hiin (.refl _) _) ⟨s1, h2, _, S1, hs2, rfl⟩ ⟨vs, hpl.at fun o e => hs2 D o hDi e, hvs⟩ L1.accN)

/-- what stands when a comprehension's loops are through -/
structure Done (hB : BB) (env : Env) (Γ : G) (C D : Addr) (τ : TC) (s : Shared) (Hc : H) (ys : List CV) (H' : H) (τ' : TC) (s' : Shared) : Prop where
  ns : ∃ m, s'.heap.Ns C m
  dead : s.heap.get? C = none
  base : hB.off C
  own : C ∉ ownOf env
  fin : ∀ h', Heap.SameBut C s'.heap h' → H' D = none ∧ Cur hB (upd H' D (.list ys)) τ' { s' with heap := h' } ∧ EnvAt hB env Γ τ' { s' with heap := h' } ∧ Step [] Hc (upd H' D (.list ys)) τ τ' s { s' with heap := h' }
theorem Done.intro {cenv : Env} {Γx : G} {D it : Addr} {τ τ4 τ' : TC} {s s4 s1 s' : Shared} {H1 H' : H} {ys : List CV} {h' : Heap} {tk : Nat} (S4 : Step [] Hc H1 τ τ4 s s4) (hi : s.heap.get? it = none) (hC : s.heap.get? cenv.locals = none) (hD : s.heap.get? D = none)
    (hCB : hB.off cenv.locals) (hDB : hB.off D) (hCo : cenv.locals ∉ ownOf env)
    (C' : Cur hB H' τ' s') (X' : EnvAt hB env Γ τ' s') (Y' : EnvAt hB cenv Γx τ' s') (S1 : Step [it, cenv.locals, D] H1 H' τ4 τ' s4 s1) (hs : Heap.ExtBut it s1.heap h') (e : s' = { s1 with heap := h', toks := tk })
    (acc : ∃ vs : List Value, s'.heap.PlainList D vs.toArray ∧ AllIs τ' vs ys) (hDN : H' D = none) : Done hB env Γ cenv.locals D τ s Hc ys H' τ' s' := by
  obtain ⟨m, hn, _⟩ := Y'.loc
  have hCN := C'.notDict hn
  refine ⟨⟨m, hn⟩, hC, hCB, hCo, fun h2 hs2 => ⟨hDN, ?_, ?_, ?_⟩⟩
  · have hDC : D ≠ cenv.locals := by
      rintro q
      obtain ⟨vs, ⟨n, ho⟩, _⟩ := acc
      obtain ⟨o, _, _, ho', hd, _⟩ := hn
      rw [q, ho'] at ho; cases ho; cases hd
    obtain ⟨vs, hp, hv⟩ := acc
    exact (C'.off hs2.extBut hCN hCB (.refl _) C'.top).take ⟨vs, hp.at fun o e => hs2.extBut D o hDC e, hv⟩ hDB
  · exact X'.off hs2.extBut hCo (.refl _) _
  · have z : Step [] Hc H' τ τ' s s1 := (S4.trans0 S1).drop (by
      intro a ha
      simp only [List.mem_cons, or_false, List.not_mem_nil] at ha
      rcases ha with rfl | rfl | rfl <;> assumption)
    have z2 : Step [] Hc H' τ τ' s s' := e ▸ z.off hs hi (.refl _) tk
    exact (z2.off hs2.extBut hC (.refl _) _).take hD

theorem comp_start {scope : Scope} {cl : List (Str × Addr)} {x : Str} {τ τ2 : TC} {s s2 : Shared} {H1 : H} {it : Addr} {S : Src} {E : Value → Shared → Prop} {R : Value → Addr → Result → Shared → Prop} {e : Expr} (K : CompOk env scope cl x)
    (X : EnvAt hB env Γ τ s) (C : Cur hB Hc τ s) (C2 : Cur hB H1 τ2 s2) (S2 : Step [] Hc H1 τ τ2 s s2) (at2 : S.at s2.heap it 0) (ok : S.ok H1) (hiN : H1 it = none)
    (h : ∀ D Ca s4, s.heap.get? Ca = none → s.heap.get? D = none → hB.off Ca → hB.off D → Ca ∉ ownOf env → Lp hB env (compEnvC scope cl Ca env) Γ (compG scope env Γ) D it S 0 [] H1 τ2 s4 → Step [] Hc H1 τ τ2 s s4 →
      codeAny (model prog w) A (.compStart e 0 (.ref it) (.ref D) (compEnvC scope cl Ca env)) (R (.ref D) Ca) s4) :
    wpAny (model prog w) A (newList []) (fun acc s₃ => wpAny (model prog w) A (newFunctionEnv scope env.globals cl [] env.qual none .none (some env)) (fun cenv s₄ =>
      codeAny (model prog w) A (.compStart e 0 (.ref it) acc { cenv with scope := relabel scope env }) (R acc cenv.locals) s₄) E s₃) E s2 := by
  refine wpAny_newObj_type (wpAny_newFunctionEnv K.nocell (by intro y hy; simp at hy) (fun h₁ hns₁ hsb₁ => ?_) K.kind)
  dsimp only at hns₁ hsb₁ ⊢
  have hDd := fresh_none s2.heap
  generalize hH2 : s2.heap.push { cls := .type "list", dict := none, data := .seq ([] : List Value).toArray } = H2 at hns₁ hsb₁ ⊢
  have hsz : H2.objs.size = s2.heap.objs.size + 1 := by rw [← hH2, Heap.size_push]
  have hDC : s2.heap.objs.size ≠ H2.objs.size := by rw [hsz]; exact Nat.ne_of_lt (Nat.lt_succ_self _)
  have hCd : s2.heap.get? H2.objs.size = none := by
    cases q : s2.heap.get? H2.objs.size with
    | none => rfl
    | some o => exact absurd (Heap.lt_size q) (by rw [hsz]; exact Nat.not_lt.mpr (Nat.le_succ _))
  have old : ∀ b o, s2.heap.get? b = some o → h₁.get? b = some o := fun b o e => hsb₁.extBut b o (by rintro rfl; rw [hCd] at e; cases e) (Heap.get?_push_of_some _ (hH2 ▸ Heap.get?_push_of_some _ e))
  obtain ⟨C4, S4⟩ := C2.grow old (Nat.le_refl s2.toks)
  have X2 := X.step C S2
  have X4 := X2.step C2 S4
  have hpl : h₁.PlainList s2.heap.objs.size ([] : List Value).toArray := ⟨0, hsb₁.extBut _ _ hDC (Heap.get?_push_of_some _ (hH2 ▸ Heap.get?_push_size _ rfl))⟩
  exact h _ _ _ (S2.dead hCd) (S2.dead hDd) (C2.baseDead hCd) (C2.baseDead hDd) (notOwn X2 hCd) ⟨C4, X4, compEnv_at K X4 hns₁ (C2.baseDead hCd).1, ok, at2.mono fun o e _ => old _ o e, hiN, ⟨[], hpl, trivial⟩, C2.new hDd⟩ (S2.trans0 S4)

def Comp1 (prog : Program) (w : World) (hB : BB) (A : Around) (env : Env) (elt iter : Expr) (x : Str) (ifs : List Expr) (scope : Scope) (cl : List (Str × Addr)) (Γ : G) (Hc : H) (P : List CV → H → Prop) : Prop :=
  It prog w hB A env iter Γ Hc fun S H1 => ∃ Inv : Nat → List CV → H → Prop, Inv 0 [] H1 ∧
    (∀ Ca i xi ys H', S.items[i]? = some xi → S.ok H' → Inv i ys H' → ys.length ≤ 900000 ∧ Tests prog w hB A (compEnvC scope cl Ca env) ifs (put (compG scope env Γ) x xi) H' fun b H2 =>
      if b then Ev prog w hB A (compEnvC scope cl Ca env) (eval elt (compEnvC scope cl Ca env)) (put (compG scope env Γ) x xi) H2 fun y H3 => S.ok H3 ∧ Inv (i + 1) (ys ++ [y]) H3 else S.ok H2 ∧ Inv (i + 1) ys H2) ∧
    (∀ ys H', Inv S.items.length ys H' → P ys H')
theorem comp1_run {elt iter : Expr} {x : Str} {px : Pos} {ifs : List Expr} {scope : Scope} {cl : List (Str × Addr)} {pos : Pos} {τ : TC} {s : Shared} {E : Value → Shared → Prop} {P : List CV → H → Prop} {R : Value → Addr → Result → Shared → Prop} (hR : Room hB 0 A) (K : CompOk env scope cl x)
    (h : Comp1 prog w hB A env elt iter x ifs scope cl Γ Hc P) (C : Cur hB Hc τ s) (X : EnvAt hB env Γ τ s)
    (hfin : ∀ D Ca ys H' τ' s', P ys H' → Done hB env Γ Ca D τ s Hc ys H' τ' s' → R (.ref D) Ca (.ok .next) s') :
    wpAny (model prog w) A (eval iter env) (fun xv s1 => wpAny (model prog w) A (pyIter xv) (fun it s2 => wpAny (model prog w) A (newList []) (fun acc s₃ => wpAny (model prog w) A (newFunctionEnv scope env.globals cl [] env.qual none .none (some env)) (fun cenv s₄ =>
      codeAny (model prog w) A (.compStart (.ListComp elt [⟨.Name x px, iter, ifs, 0⟩] scope pos) 0 it acc { cenv with scope := relabel scope env }) (R acc cenv.locals) s₄) E s₃) E s2) E s1) E s := by
  refine wpAny_mono (h τ s E C X) (fun xv s1 h1 => wpAny_mono h1 (fun itv s2 h2 => ?_) fun _ _ e => e) fun _ _ e => e
  obtain ⟨it, S, H1, τ2, rfl, C2, S2, hit0, hitH, hitB, ok, at0, Inv, hI0, turn, done⟩ := h2
  refine comp_start (R := R) K X C C2 S2 at0 ok hitH fun D Ca s4 hC0 hD0 hCB hDB hCo L S4 => ?_
  have loop : codeAny (model prog w) A (.compLoop (.ListComp elt [⟨.Name x px, iter, ifs, 0⟩] scope pos) 0 (.ref it) (.ref D) (compEnvC scope cl Ca env)) (R (.ref D) Ca) s4 := by
    refine loop_last (cenv := compEnvC scope cl Ca env) (env := env) (Γ := Γ) (elt := elt) (iter := iter) (x := x) (px := px) (ifs := ifs) (S := S) Inv (by rfl) hR.1 (lookup_relabel_local K.var) (compG_local K.var) hDB hitB hCo hI0 L (fun i xi ys H' => turn Ca i xi ys H') ?_
    rintro ys H' τ' s' hI C' X' Y' ⟨s1', h', tk, S1, hs, e⟩ acc hDN
    exact hfin D Ca ys H' τ' s' (done ys H' hI) (Done.intro (cenv := compEnvC scope cl Ca env) S4 hit0 hC0 hD0 hCB hDB hCo C' X' Y' S1 hs e acc hDN)
  exact codeAny_compStart_list loop (Src.self hR.1 L.src loop)

theorem Ev.ofDone {P : CV → H → Prop} {s : Shared} {τ : TC} {E : Value → Shared → Prop} {D Ca : Addr} {ys : List CV} {H' : H} {τ' : TC} {s' : Shared} (p : ∀ a, H' a = none → P (.r a) (upd H' a (.list ys))) (dn : Done hB env Γ Ca D τ s Hc ys H' τ' s') :
    compPost (model prog w) A E none (Post hB Hc τ s P) (.ref D) Ca (.ok .next) s' := by
  obtain ⟨m, hm⟩ := dn.ns
  refine ⟨m, hm, fun h' hs' => ?_⟩
  obtain ⟨hDN, C', _, S'⟩ := dn.fin h' hs'
  exact ⟨.r D, _, τ', rr, C', S', p D hDN⟩
theorem Ex.ofDone {y : Str} {py : Pos} {Q : CF → G → H → Prop} {s : Shared} {τ : TC} {E : Value → Shared → Prop} {D Ca : Addr} {ys : List CV} {H' : H} {τ' : TC} {s' : Shared} (hy : env.kindOf y = some .local) (p : ∀ a, H' a = none → Q .next (put Γ y (.r a)) (upd H' a (.list ys))) (dn : Done hB env Γ Ca D τ s Hc ys H' τ' s') :
    compPost (model prog w) A E (some (PySem.assign (.Name y py) env)) (fun _ s' => PostX hB env Hc τ s Q .next s') (.ref D) Ca (.ok .next) s' := by
  obtain ⟨m, hm⟩ := dn.ns
  obtain ⟨hDN, C', X', S'⟩ := dn.fin s'.heap (Heap.SameBut.refl _ _)
  have hN := C'.notDict hm
  show wpAny _ _ (PySem.assign (.Name y py) env (.ref D)) _ _ _
  refine wpAny_assign_Name (storeL C' X' (cv := .r D) rr hy fun s2 C2 X2 S2 => ?_)
  have hne : Ca ≠ env.locals := fun q => dn.own (q ▸ List.mem_cons_self ..)
  refine ⟨m, ns_like (fun o e => S2.keep Ca o e hN (by simpa using hne)) hm, fun h' hs' => ?_⟩
  have z : Step (ownOf env) Hc (upd H' D (.list ys)) τ τ' s s2 := S'.trans0 (S2.wide fun a ha => by rw [List.mem_singleton.mp ha]; exact List.mem_cons_self ..)
  exact ⟨.next, _, _, τ', trivial, C2.off hs'.extBut hN dn.base (.refl _) C2.top, X2.off hs'.extBut dn.own (.refl _) _, z.off hs'.extBut dn.dead (.refl _) _, p D hDN⟩

theorem Ev.comp {elt iter : Expr} {x : Str} {px : Pos} {ifs : List Expr} {scope : Scope} {cl : List (Str × Addr)} {pos : Pos} {P : CV → H → Prop} (hR : Room hB 0 A) (K : CompOk env scope cl x)
    (h : Comp1 prog w hB A env elt iter x ifs scope cl Γ Hc fun ys H' => ∀ a, H' a = none → P (.r a) (upd H' a (.list ys)))
    (hs : ∀ x, foldedSetIterable iter env x = pure x := by intro _; rfl) : Ev prog w hB A env (eval (.ListComp elt [⟨.Name x px, iter, ifs, 0⟩] scope pos) env) Γ Hc P := by
  intro τ s E C X
  rw [eval_ListComp]
  refine wpAny_comprehension_free (use := none) rfl hs K.clos K.kind K.names ?_
  exact comp1_run (R := fun acc C => compPost (model prog w) A E none (Post hB Hc τ s P) acc C) hR K h C X fun D Ca ys H' τ' s' p dn => Ev.ofDone p dn
theorem Ex.assignComp {y : Str} {py : Pos} {spos : Pos} {elt iter : Expr} {x : Str} {px : Pos} {ifs : List Expr} {scope : Scope} {cl : List (Str × Addr)} {pos : Pos} {Q : CF → G → H → Prop} (hR : Room hB 0 A) (K : CompOk env scope cl x)
    (h : Comp1 prog w hB A env elt iter x ifs scope cl Γ Hc fun ys H' => ∀ a, H' a = none → Q .next (put Γ y (.r a)) (upd H' a (.list ys)))
    (hsw : swapsWith (.ListComp elt [⟨.Name x px, iter, ifs, 0⟩] scope pos) (some (.Name y py)) spos.line env = pure true := by rfl) (hy : env.kindOf y = some .local := by rfl)
    (hs : ∀ x, foldedSetIterable iter env x = pure x := by intro _; rfl) : Ex prog w hB A env (exec (.Assign [.Name y py] (.ListComp elt [⟨.Name x px, iter, ifs, 0⟩] scope pos) spos) env) Γ Hc Q := by
  intro τ s E C X
  rw [exec_Assign_Name_used _ _ _ _ hsw]
  refine wpAny_bind (wpAny_standAt (wpAny_bind ?_))
  show wpAny _ A (do let _ ← comprehension (.ListComp elt [⟨.Name x px, iter, ifs, 0⟩] scope pos) scope env _ (newList []) false (eval iter env) (some (PySem.assign (.Name y py) env))) _ _ s
  refine wpAny_bind (wpAny_mono (wpAny_comprehension_free (use := some (PySem.assign (.Name y py) env)) (Q := fun _ s' => PostX hB env Hc τ s Q .next s') rfl hs K.clos K.kind K.names
    (comp1_run (R := fun acc C => compPost (model prog w) A E (some (PySem.assign (.Name y py) env)) (fun _ s' => PostX hB env Hc τ s Q .next s') acc C) hR K h C X fun D Ca ys H' τ' s' p dn => Ex.ofDone hy p dn)) (fun _ s' p => ?_) fun _ _ e => e)
  exact wpAny_pure (wpAny_pure p)
end
end Mine

set_option maxRecDepth 100000
set_option maxHeartbeats 1000000
namespace Mine
theorem bind1 {F : List Value → Value → Value → Value → Prop} (h : ∀ u a b c, F [u] a b c) : ∀ vs a b c, vs.length = 1 → F vs a b c := fun vs a b c hl => by
  cases vs with
  | nil => cases hl
  | cons u r => cases r with
    | nil => exact h u a b c
    | cons => cases hl
theorem bind2 {F : List Value → Value → Value → Value → Prop} (h : ∀ u v a b c, F [u, v] a b c) : ∀ vs a b c, vs.length = 2 → F vs a b c := fun vs a b c hl => by
  cases vs with
  | nil => cases hl
  | cons u r => exact bind1 (F := fun r a b c => F (u :: r) a b c) (fun v a b c => h u v a b c) r a b c (Nat.succ.inj hl)
theorem bind3 {F : List Value → Value → Value → Value → Prop} (h : ∀ u v w a b c, F [u, v, w] a b c) : ∀ vs a b c, vs.length = 3 → F vs a b c := fun vs a b c hl => by
  cases vs with
  | nil => cases hl
  | cons u r => exact bind2 (F := fun r a b c => F (u :: r) a b c) (fun v w a b c => h u v w a b c) r a b c (Nat.succ.inj hl)
theorem bind4 {F : List Value → Value → Value → Value → Prop} (h : ∀ u v w x a b c, F [u, v, w, x] a b c) : ∀ vs a b c, vs.length = 4 → F vs a b c := fun vs a b c hl => by
  cases vs with
  | nil => cases hl
  | cons u r => exact bind3 (F := fun r a b c => F (u :: r) a b c) (fun v w x a b c => h u v w x a b c) r a b c (Nat.succ.inj hl)
/-- the def stands in the base under its name -/
def FnIs (hB : BB) (mg : Str → Option Value) (d : DefRec) (a : Addr) : Prop :=
  ∃ o pm code doc, mg d.name = some (.ref a) ∧ hB.get? a = some o ∧ o.data = .func (docDef d.name d.params d.body d.scope pm code doc) ∧ hB.heap.CodeRec code d.name
def noG : G := fun _ => none
def endQ (P : CV → H → Prop) (f : CF) (_ : G) (Hc : H) : Prop :=
  match f with
  | .ret v => P v Hc
  | .next => P .n Hc
  | _ => False
section
variable {prog : Program} {w : World} {hB : BB} {A : Around} {env : Env} {Γ : G} {Hc : H} {mg mb : Str → Option Value}

theorem Cur.intoDeep {L : Addr} {m : Str → Option Value} {τ : TC} {s : Shared} (C : Cur hB Hc τ s) (hn : s.heap.Ns L m) : Cur (hB.deep L) Hc τ s :=
  ⟨C.pos, C.top, C.base, C.bsep, C.hok, fun L' h => by
    rcases List.mem_cons.mp h with rfl | h
    · obtain ⟨o, es, ep, ho, hd, _⟩ := hn; exact ⟨o, ho, es, ep, hd⟩
    · exact C.fr L' h⟩
theorem Cur.undeep {L : Addr} {τ : TC} {s : Shared} (C : Cur (hB.deep L) Hc τ s) : Cur hB Hc τ s :=
  ⟨C.pos, C.top, C.base, C.bsep, C.hok, fun L' h => C.fr L' (List.mem_cons_of_mem _ h)⟩
def retOf (f : Flow) : Value := match f with | .ret v => v | _ => .none
theorem endPost {L : Addr} {P : CV → H → Prop} {τ τ1 : TC} {s s1 s' : Shared} {f : Flow} (S0 : Step [] Hc Hc τ τ1 s s1) (hd : ∀ a ∈ ownOf env, s.heap.get? a = none) (p : PostX (hB.deep L) env Hc τ1 s1 (endQ P) f s') :
    Post hB Hc τ s P (retOf f) s' := by
  obtain ⟨cf, Γ', H', τ', hf, C', X', S', q⟩ := p
  replace C' := C'.undeep
  have S2 := (S0.trans0 S').drop hd
  cases f with
  | next => cases cf <;> first | exact hf.elim | exact ⟨.n, H', τ', rn, C', S2, q⟩
  | brk => cases cf <;> first | exact hf.elim | exact q.elim
  | cont => cases cf <;> first | exact hf.elim | exact q.elim
  | ret v => cases cf <;> first | exact hf.elim | exact ⟨_, H', τ', hf, C', S2, q⟩

def Binds (names : List Str) (cvs : List CV) : G := fun y => ((names.zip cvs).reverse.lookup y)
theorem lookup_zip {τ : TC} {names : List Str} : ∀ {vs : List Value} {cvs : List CV}, AllIs τ vs cvs → ∀ y cv, (names.zip cvs).reverse.lookup y = some cv → ∃ v, (names.zip vs).reverse.lookup y = some v ∧ Is τ v cv := by
  induction names with
  | nil => intro vs cvs _ y cv h; simp at h
  | cons n r ih =>
    intro vs cvs h y cv hy
    cases cvs with
    | nil => simp at hy
    | cons c cs =>
      cases vs with
      | nil => exact h.elim
      | cons v vs =>
        simp only [List.zip_cons_cons, List.reverse_cons] at hy ⊢
        rw [List.lookup_append] at hy ⊢
        cases hq : (r.zip cs).reverse.lookup y with
        | some c' =>
          rw [hq] at hy
          simp only [Option.some_or, Option.some.injEq] at hy
          subst hy
          obtain ⟨v', e1, e2⟩ := ih h.2 y c' hq
          exact ⟨v', by rw [e1]; rfl, e2⟩
        | none =>
          rw [hq] at hy
          simp only [Option.none_or] at hy
          have hn : (r.zip vs).reverse.lookup y = none := by
            cases hz : (r.zip vs).reverse.lookup y with
            | none => rfl
            | some z =>
              exfalso
              have hm := mem_of_lookup hz
              rw [List.lookup_eq_none_iff] at hq
              rw [List.mem_reverse] at hm
              obtain ⟨i, hi, e⟩ := List.getElem_of_mem hm
              have hl : i < (r.zip cs).length := by
                have := h.2.len
                simp only [List.length_zip] at hi ⊢; (clear ih hq; omega)
              have e2 : ((r.zip cs)[i]).1 = y := by
                have : ((r.zip vs)[i]).1 = y := by rw [e]
                simp only [List.getElem_zip] at this ⊢; exact this
              have := hq ((r.zip cs)[i]) (List.mem_reverse.mpr (List.getElem_mem hl))
              rw [e2] at this
              simp at this
          rw [hn]
          simp only [Option.none_or]
          by_cases e : y = n
          · subst e
            simp only [List.lookup_cons, beq_self_eq_true, Option.some.injEq] at hy ⊢
            exact ⟨v, rfl, hy ▸ h.1⟩
          · have e' : (y == n) = false := by simpa using e
            simp [List.lookup_cons, e'] at hy

theorem Fn.plainF {d : DefRec} {a : Addr} {k : Nat} {cvs : List CV} {P : CV → H → Prop} (L : Gl hB mg mb) (F : FnIs hB mg d a) (names : List Str)
    (h : ∀ (A : Around) (code : Value) (fr : Addr), Room (hB.deep fr) k A → (∃ outer, A.frames = some (envOf d.name d.scope fr a code :: outer)) → Ex prog w (hB.deep fr) A (envOf d.name d.scope fr a code) (execs d.body (envOf d.name d.scope fr a code)) (Binds names cvs) Hc (endQ P))
    (hbind : ∀ (vs : List Value) (pm code doc : Value), vs.length = cvs.length → bindArgs (docDef d.name d.params d.body d.scope pm code doc) ⟨vs, []⟩ = pure (names.zip vs))
    (hloc : names.all (fun x => decide (d.scope.names.lookup x = some .local)) = true)
    (hco : d.scope.isCoroutine = false := by rfl) (hgen : d.scope.isGenerator = false := by rfl) (hk : d.scope.kind = .function := by rfl)
    (hcell : ∀ x ∈ d.scope.names, x.2 ≠ .cell := by decide) : Fn prog w hB (k + 1) a cvs Hc P := by
  intro A τ s vs hR hv C
  obtain ⟨o, pm, code, doc, hm, ho, hd, hcd⟩ := F
  have hlocs : ∀ x ∈ names.zip vs, d.scope.names.lookup x.1 = some .local := fun x hx => by
    have := List.all_eq_true.mp hloc x.1 (List.of_mem_zip hx).1
    simpa using this
  refine call_plain_ret hR.depth (C.base _ _ ho) hd (C.lim L) (hcd.keeps C.base) (hbind vs pm code doc hv.len) hlocs (fun h₁ Fr₁ => ?_) hco hgen hk hcell
  have hdead := fresh_none s.heap
  obtain ⟨C1, S1⟩ := C.grow (h' := h₁) Fr₁.keep (Nat.le_add_right s.toks (names.zip vs).length)
  replace C1 := C1.intoDeep Fr₁.ns
  have hoff := C.baseDead hdead
  have X1 : EnvAt (hB.deep s.heap.objs.size) (envOf d.name d.scope s.heap.objs.size a code) (Binds names cvs) τ { s with heap := h₁, toks := s.toks + (names.zip vs).length } := by
    refine ⟨hk, rfl, rfl, fun b hb => ?_, fun x y c hx => (by cases hx), ⟨_, Fr₁.ns, fun x cv _ hx => lookup_zip hv x cv hx⟩, fun x hx => ?_, fun x c hc => (by cases hc)⟩
    · rw [List.mem_singleton.mp hb]; exact hoff.1
    · exact absurd rfl (hcell _ (mem_of_lookup hx))
  refine wpAny_mono (h (A.deeper _) code s.heap.objs.size (hR.deeper hk rfl hoff.1) (let ⟨l, hl, _⟩ := hR.2.2.2; ⟨l, PySem.Around.frames_deeper hl⟩) τ _ _ C1 X1) (fun f s' p => ⟨_, rfl, ?_⟩) fun _ _ e => e
  exact endPost S1 (fun b hb => by rw [List.mem_singleton.mp hb]; exact hdead) p

theorem Fn.plain {d : DefRec} {a : Addr} {k : Nat} {cvs : List CV} {P : CV → H → Prop} (L : Gl hB mg mb) (F : FnIs hB mg d a) (names : List Str)
    (h : ∀ (A : Around) (code : Value) (fr : Addr), Room (hB.deep fr) k A → Ex prog w (hB.deep fr) A (envOf d.name d.scope fr a code) (execs d.body (envOf d.name d.scope fr a code)) (Binds names cvs) Hc (endQ P))
    (hbind : ∀ (vs : List Value) (pm code doc : Value), vs.length = cvs.length → bindArgs (docDef d.name d.params d.body d.scope pm code doc) ⟨vs, []⟩ = pure (names.zip vs))
    (hloc : names.all (fun x => decide (d.scope.names.lookup x = some .local)) = true)
    (hco : d.scope.isCoroutine = false := by rfl) (hgen : d.scope.isGenerator = false := by rfl) (hk : d.scope.kind = .function := by rfl)
    (hcell : ∀ x ∈ d.scope.names, x.2 ≠ .cell := by decide) : Fn prog w hB (k + 1) a cvs Hc P :=
  Fn.plainF L F names (fun A code fr hR _ => h A code fr hR) hbind hloc hco hgen hk hcell

theorem bindL_zip {kindOf : Str → Option NameKind} {τ : TC} : ∀ (names : List Str) {vs : List Value} {cvs : List CV} {m : Str → Option Value} {cm : Str → Option Value} {Γ : G}, AllIs τ vs cvs →
    (∀ y cv, kindOf y = some .local → Γ y = some cv → ∃ v, m y = some v ∧ Is τ v cv) → (∀ y cv, kindOf y = some .cell → Γ y = some cv → ∃ v, cm y = some v ∧ Is τ v cv) →
    (∀ y cv, kindOf y = some .local → ((names.zip cvs).foldl (fun Γ p => put Γ p.1 p.2) Γ) y = some cv → ∃ v, bindL kindOf (names.zip vs) m y = some v ∧ Is τ v cv) ∧
    (∀ y cv, kindOf y = some .cell → ((names.zip cvs).foldl (fun Γ p => put Γ p.1 p.2) Γ) y = some cv → ∃ v, bindC kindOf (names.zip vs) cm y = some v ∧ Is τ v cv)
  | [], vs, cvs, m, cm, Γ, _, h1, h2 => by simpa [bindL, bindC] using ⟨h1, h2⟩
  | n :: r, [], [], m, cm, Γ, _, h1, h2 => by simpa [bindL, bindC] using ⟨h1, h2⟩
  | n :: r, [], _ :: _, _, _, _, h, _, _ => h.elim
  | n :: r, _ :: _, [], _, _, _, h, _, _ => h.elim
  | n :: r, v :: vs, c :: cs, m, cm, Γ, h, h1, h2 => by
    simp only [List.zip_cons_cons, List.foldl_cons, bindL, bindC]
    refine bindL_zip r h.2 (fun y cv hk hy => ?_) (fun y cv hk hy => ?_)
    · by_cases e : y = n
      · subst e
        rw [put_self] at hy; cases hy
        rw [if_pos hk]; exact ⟨v, by simp, h.1⟩
      · rw [put_ne _ _ e] at hy
        obtain ⟨u, hu, hi⟩ := h1 y cv hk hy
        refine ⟨u, ?_, hi⟩
        split
        · simp [e, hu]
        · exact hu
    · by_cases e : y = n
      · subst e
        rw [put_self] at hy; cases hy
        rw [if_neg (by rw [hk]; simp)]; exact ⟨v, by simp, h.1⟩
      · rw [put_ne _ _ e] at hy
        obtain ⟨u, hu, hi⟩ := h2 y cv hk hy
        refine ⟨u, ?_, hi⟩
        split
        · exact hu
        · simp [e, hu]
def BindsC (names : List Str) (cvs : List CV) : G := (names.zip cvs).foldl (fun Γ p => put Γ p.1 p.2) noG

theorem lookup_of_mem {x : Str} {c : Addr} : ∀ {l : List (Str × Addr)}, (l.map (·.1)).Nodup → (x, c) ∈ l → l.lookup x = some c
  | (y, d) :: r, hn, h => by
    simp only [List.map_cons, List.nodup_cons] at hn
    rcases List.mem_cons.mp h with e | h2
    · cases e; simp [List.lookup_cons]
    · have hne : (x == y) = false := by
        have : x ≠ y := by intro e; subst e; exact hn.1 (List.mem_map.mpr ⟨(x, c), h2, rfl⟩)
        simpa using this
      rw [List.lookup_cons, hne]
      exact lookup_of_mem hn.2 h2
theorem cellsFrom_names : ∀ (names : List (Str × NameKind)) (n m : Nat) (acc acc' : List (Str × Addr)), acc.map (·.1) = acc'.map (·.1) → (cellsFrom n names acc).map (·.1) = (cellsFrom m names acc').map (·.1)
  | [], _, _, _, _, h => h
  | (y, k) :: r, n, m, acc, acc', h => by
    unfold cellsFrom
    split
    · exact cellsFrom_names r _ _ _ _ (by simp [h])
    · exact cellsFrom_names r _ _ _ _ h
theorem cellsFrom_isSome {x : Str} : ∀ (names : List (Str × NameKind)) (n : Nat) (acc : List (Str × Addr)), names.lookup x = some .cell → ((cellsFrom n names acc).lookup x).isSome = true :=
  fun names n acc h => PySem.W.cellsFrom_some names n acc (.inl h)

/-- a def some of whose names are cells -/
theorem Fn.cells {d : DefRec} {a : Addr} {k : Nat} {cvs : List CV} {P : CV → H → Prop} (L : Gl hB mg mb) (F : FnIs hB mg d a) (names : List Str)
    (h : ∀ (A : Around) (code : Value) (fr : Addr), Room (hB.deep fr) k A → Ex prog w (hB.deep fr) A (envOfC d.name d.scope fr a code) (execs d.body (envOfC d.name d.scope fr a code)) (BindsC names cvs) Hc (endQ P))
    (hbind : ∀ (vs : List Value) (pm code doc : Value), vs.length = cvs.length → bindArgs (docDef d.name d.params d.body d.scope pm code doc) ⟨vs, []⟩ = pure (names.zip vs))
    (hloc : names.all (fun x => decide (d.scope.names.lookup x = some .local ∨ d.scope.names.lookup x = some .cell)) = true)
    (hnd : ((cellsFrom 0 d.scope.names []).map (·.1)).Nodup := by decide)
    (hco : d.scope.isCoroutine = false := by rfl) (hgen : d.scope.isGenerator = false := by rfl) (hk : d.scope.kind = .function := by rfl) : Fn prog w hB (k + 1) a cvs Hc P := by
  intro A τ s vs hR hv C
  obtain ⟨o, pm, code, doc, hm, ho, hd, hcd⟩ := F
  have hkind : ∀ x ∈ names.zip vs, d.scope.names.lookup x.1 = some .local ∨ (d.scope.names.lookup x.1 = some .cell ∧ ((cellsFrom (s.heap.objs.size + 1) d.scope.names []).lookup x.1).isSome = true) := fun x hx => by
    have := List.all_eq_true.mp hloc x.1 (List.of_mem_zip hx).1
    rcases of_decide_eq_true this with h1 | h1
    · exact .inl h1
    · exact .inr ⟨h1, cellsFrom_isSome _ _ _ h1⟩
  have hdead := fresh_none s.heap
  have hfar : ∀ c, s.heap.objs.size ≤ c → s.heap.get? c = none := fun c hc => by
    cases q : s.heap.get? c with
    | none => rfl
    | some o => exact absurd (Heap.lt_size q) (Nat.not_lt.mpr hc)
  refine codeAny_call_function hR.depth (C.base _ _ ho) hd hco hgen rfl (hcd.keeps C.base) ?_
  rw [hbind vs pm code doc hv.len]
  refine wpAny_pure (wpAny_with_toks (Nat.le_refl s.toks) (wpAny_newFunctionEnv_cells hk hkind fun env he s1 x htk => ?_))
  subst he
  refine ⟨(C.lim L).keeps x.toInCall.keep, codeAny_func ?_⟩
  show wpAny _ (A.deeper (envOfC d.name d.scope s.heap.objs.size a code)) (execs d.body (envOfC d.name d.scope s.heap.objs.size a code)) _ _ s1
  obtain ⟨h1, tk, es⟩ := x.toInCall.same
  have hkeep := x.toInCall.keep
  subst es
  obtain ⟨C1, S1⟩ := C.grow (h' := h1) hkeep htk
  have hcells : ((cellsFrom (s.heap.objs.size + 1) d.scope.names []).map (·.1)).Nodup := by rw [cellsFrom_names d.scope.names (s.heap.objs.size + 1) 0 [] [] rfl]; exact hnd
  have hnew : ∀ b ∈ ownOf (envOfC d.name d.scope s.heap.objs.size a code), s.heap.get? b = none := fun b hb => by
    rcases List.mem_cons.mp hb with rfl | hb
    · exact hdead
    · obtain ⟨⟨y, c⟩, hp, rfl⟩ := List.mem_map.mp hb
      exact hfar _ (Nat.le_of_lt (x.above y c hp))
  have hbz := bindL_zip (kindOf := (envOfC d.name d.scope s.heap.objs.size a code).kindOf) (τ := τ) names hv (m := fun _ => none) (cm := fun _ => none) (Γ := noG) (fun _ _ _ e => by cases e) (fun _ _ _ e => by cases e)
  replace C1 := C1.intoDeep x.toInCall.ns
  have hoff := C.baseDead hdead
  have X1 : EnvAt (hB.deep s.heap.objs.size) (envOfC d.name d.scope s.heap.objs.size a code) (BindsC names cvs) τ { s with heap := h1, toks := tk } := by
    refine ⟨hk, rfl, rfl, fun b hb => (C.baseDead (hnew b hb)).1, fun y z c hy hz => name_of_addr x.apart (mem_of_lookup hy) (mem_of_lookup hz), ⟨_, x.toInCall.ns, hbz.1⟩, fun y hy => ?_, fun y c hc => ?_⟩
    · obtain ⟨c, hc⟩ := Option.isSome_iff_exists.mp (cellsFrom_isSome (x := y) d.scope.names (s.heap.objs.size + 1) [] hy)
      exact ⟨c, _, hc, x.cell y c hc, fun cv hg => hbz.2 y cv hy hg⟩
    · exact ⟨_, x.cell y c (lookup_of_mem hcells hc)⟩
  refine wpAny_mono (h (A.deeper _) code s.heap.objs.size (hR.deeper hk rfl hoff.1) τ _ _ C1 X1) (fun f s' p => ⟨_, rfl, ?_⟩) fun _ _ e => e
  exact endPost S1 hnew p
end

/-- the law's defs, by their places -/
def rec (k : Nat) : DefRec := ((recsOf PySem.Challenge.pw_we0004_01)[k]?).getD ⟨"", ⟨[], [], none, [], [], none, []⟩, [], default, default⟩
/-- all that is known of the base -/
structure Base (hB : BB) (mg mb : Str → Option Value) (f : Nat → Addr) : Prop extends Gl hB mg mb where
  fn : ∀ k, k < 22 → FnIs hB mg (rec k) (f k)
  free : ∀ x, x ∉ startupNames → x ∉ (recsOf PySem.Challenge.pw_we0004_01).map (·.name) → mg x = none

theorem Base.deep {hB : BB} {mg mb : Str → Option Value} {f : Nat → Addr} (B : Base hB mg mb f) (L : Addr) : Base (hB.deep L) mg mb f := ⟨⟨B.g, B.b, B.lim, B.boot⟩, B.fn, B.free⟩
section
variable {prog : Program} {w : World} {hB : BB} {Hc : H} {mg mb : Str → Option Value} {f : Nat → Addr}
theorem add_spec (B : Base hB mg mb f) {x y : Int} {cx cy : CV} (hx : intOf cx = some x) (hy : intOf cy = some y) {P : CV → H → Prop} (h : P (.i (x + y)) Hc) : Fn prog w hB 1 (f 4) [cx, cy] Hc P := by
  refine Fn.plain B.toGl (B.fn 4 (by decide)) ["a", "b"] (fun A code fr hR => ?_) ?_ (by rfl)
  · refine Ex.one (Ex.ret (Ev.binop (Ev.name (cv := cx) (by rfl) (.inl (by rfl)) (Ev.name (cv := cy) (by rfl) (.inl (by rfl)) ?_))))
    exact Op2.addi h hx hy
  · exact bind2 fun _ _ _ _ _ => rfl
end
end Mine

set_option maxRecDepth 100000
set_option maxHeartbeats 1000000
namespace Mine
section
variable {prog : Program} {w : World} {hB : BB} {A : Around} {env : Env} {Γ : G} {Hc : H} {mg mb : Str → Option Value}

/-! two loops in one comprehension -/
theorem outer_turn (elt it0 it1 : Expr) (x0 x1 : Str) (px0 px1 : Pos) (scope : Scope) (pos : Pos) (it acc : Value) (env : Env) :
    compTurn (.ListComp elt [⟨.Name x0 px0, it0, [], 0⟩, ⟨.Name x1 px1, it1, [], 0⟩] scope pos) 0 it acc env = (do
      standAt it0.pos
      match ← pyNext it with
      | none => pure (.done .next)
      | some v =>
        letOwnedTupleGo (.Name x0 px0) it v
        PySem.assign (.Name x0 px0) env v
        let x ← eval it1 env
        standAt it1.pos
        let x ← foldedSetIterable it1 env x
        let _ ← runOwn (.compStart (.ListComp elt [⟨.Name x0 px0, it0, [], 0⟩, ⟨.Name x1 px1, it1, [], 0⟩] scope pos) 1 (← holding [x] (pyIter x)) acc env) env
        again (.compLoop (.ListComp elt [⟨.Name x0 px0, it0, [], 0⟩, ⟨.Name x1 px1, it1, [], 0⟩] scope pos) 0 it acc env)) := by rfl
theorem start1 {elt it0 it1 : Expr} {x0 x1 : Str} {px0 px1 : Pos} {scope : Scope} {pos : Pos} {it acc : Value} {R : Result → Shared → Prop} {s : Shared}
    (h0 : codeAny (model prog w) A (.compLoop (.ListComp elt [⟨.Name x0 px0, it0, [], 0⟩, ⟨.Name x1 px1, it1, [], 0⟩] scope pos) 1 it acc env) R s)
    (h : wpAny (model prog w) A (pyIter it) (fun it' s' => codeAny (model prog w) A (.compLoop (.ListComp elt [⟨.Name x0 px0, it0, [], 0⟩, ⟨.Name x1 px1, it1, [], 0⟩] scope pos) 1 it' acc env) R s')
      (notedBy (model prog w) A env fun x s' => R (.error x) s') s) :
    codeAny (model prog w) A (.compStart (.ListComp elt [⟨.Name x0 px0, it0, [], 0⟩, ⟨.Name x1 px1, it1, [], 0⟩] scope pos) 1 it acc env) R s := by
  refine codeAny_of_tree ?_
  show wpAny _ _ ((compStart (.ListComp elt [⟨.Name x0 px0, it0, [], 0⟩, ⟨.Name x1 px1, it1, [], 0⟩] scope pos) 1 it acc env).onRaise (fun x => do noteFrame x env; standAt theWindowsPlace)) _ _ s
  refine wpAny_notedAt ?_
  unfold compStart
  show wpAny _ _ (ask >>= _) _ _ s
  refine wpAny_bind (wpAny_askSetting (wpAny_ite ?_))
  split
  · first
      | exact wpAny_bind (wpAny_pure (wpAny_pure (And.intro rfl h0)))
      | exact wpAny_pure (And.intro rfl h0)
  · first
      | exact wpAny_bind (wpAny_rule (wpAny_bind (wpAny_standAt (wpAny_bind (wpAny_mono h (fun it' s' h' => wpAny_pure (And.intro rfl h')) fun _ _ x => x)))))
      | (refine wpAny_bind (wpAny_rule ?_); show wpAny _ _ (standAt it1.pos >>= _) _ _ s; exact wpAny_bind (wpAny_standAt (wpAny_bind (wpAny_mono h (fun it' s' h' => wpAny_pure (And.intro rfl h')) fun _ _ x => x))))

def Comp2 (prog : Program) (w : World) (hB : BB) (A : Around) (env : Env) (elt it0 it1 : Expr) (x0 x1 : Str) (scope : Scope) (cl : List (Str × Addr)) (Γ : G) (Hc : H) (P : List CV → H → Prop) : Prop :=
  It prog w hB A env it0 Γ Hc fun S H1 => ∃ Inv : Nat → List CV → H → Prop, Inv 0 [] H1 ∧
    (∀ Ca i xi ys H', S.items[i]? = some xi → S.ok H' → Inv i ys H' → It prog w hB A (compEnvC scope cl Ca env) it1 (put (compG scope env Γ) x0 xi) H' fun S1 H2 => ∃ Inv1 : Nat → List CV → H → Prop, Inv1 0 ys H2 ∧
      (∀ j xj zs H3, S1.items[j]? = some xj → S1.ok H3 → Inv1 j zs H3 → zs.length ≤ 900000 ∧
        Ev prog w hB A (compEnvC scope cl Ca env) (eval elt (compEnvC scope cl Ca env)) (put (put (compG scope env Γ) x0 xi) x1 xj) H3 fun y H4 => S1.ok H4 ∧ Inv1 (j + 1) (zs ++ [y]) H4) ∧
      (∀ zs H3, Inv1 S1.items.length zs H3 → S.ok H3 ∧ Inv (i + 1) zs H3)) ∧
    (∀ ys H', Inv S.items.length ys H' → P ys H')

theorem loop_outer {cenv : Env} {Γx : G} {elt it0 it1 : Expr} {x0 x1 : Str} {px0 px1 : Pos} {scope : Scope} {pos : Pos} {D it : Addr} {S : Src} {τ : TC} {s : Shared} {H0 : H} {R : Result → Shared → Prop}
    (Inv : Nat → List CV → H → Prop) {ys0 : List CV}
    (hR : Room hB 0 A) (hkx : cenv.kindOf x0 = some .local) (hxN : Γx x0 = none) (hkx1 : cenv.kindOf x1 = some .local) (hxN1 : Γx x1 = none) (hx01 : x1 ≠ x0)
    (hDB : hB.off D) (hiB : hB.off it) (hCo : cenv.locals ∉ ownOf env)
    (hI : Inv 0 ys0 H0) (L : Lp hB env cenv Γ Γx D it S 0 ys0 H0 τ s)
    (turn : ∀ i xi ys H', S.items[i]? = some xi → S.ok H' → Inv i ys H' → It prog w hB A cenv it1 (put Γx x0 xi) H' fun S1 H2 => ∃ Inv1 : Nat → List CV → H → Prop, Inv1 0 ys H2 ∧
      (∀ j xj zs H3, S1.items[j]? = some xj → S1.ok H3 → Inv1 j zs H3 → zs.length ≤ 900000 ∧
        Ev prog w hB A cenv (eval elt cenv) (put (put Γx x0 xi) x1 xj) H3 fun y H4 => S1.ok H4 ∧ Inv1 (j + 1) (zs ++ [y]) H4) ∧
      (∀ zs H3, Inv1 S1.items.length zs H3 → S.ok H3 ∧ Inv (i + 1) zs H3))
    (done : ∀ ys H' τ' s', Inv S.items.length ys H' → Cur hB H' τ' s' → EnvAt hB env Γ τ' s' → EnvAt hB cenv Γx τ' s' → (∃ s1 h' tk, Step [it, cenv.locals, D] H0 H' τ τ' s s1 ∧ Heap.ExtBut it s1.heap h' ∧ s' = { s1 with heap := h', toks := tk }) →
      (∃ vs : List Value, s'.heap.PlainList D vs.toArray ∧ AllIs τ' vs ys) → H' D = none → R (.ok .next) s')
    (hs1 : ∀ x, foldedSetIterable it1 cenv x = pure x) :
    codeAny (model prog w) A (.compLoop (.ListComp elt [⟨.Name x0 px0, it0, [], 0⟩, ⟨.Name x1 px1, it1, [], 0⟩] scope pos) 0 (.ref it) (.ref D) cenv) R s := by
  refine codeAny_loop rfl (fun n s' => ∃ i ys H' τ', n = S.items.length - i ∧ i ≤ S.items.length ∧ Inv i ys H' ∧ Lp hB env cenv Γ Γx D it S i ys H' τ' s' ∧ Step [it, cenv.locals, D] H0 H' τ τ' s s') ?_ S.items.length
    ⟨0, ys0, H0, τ, rfl, Nat.zero_le _, hI, L, Step.refl _ _ _ _⟩
  rintro n s1 ⟨i, ys, H1, τ1, rfl, hi, hI1, L1, S1⟩
  show wpAny _ A ((compTurn (.ListComp elt [⟨.Name x0 px0, it0, [], 0⟩, ⟨.Name x1 px1, it1, [], 0⟩] scope pos) 0 (.ref it) (.ref D) cenv).onRaise (fun x => do noteFrame x cenv; theTreesLotGoes x)) _ _ s1
  refine wpAny_noted ?_
  rw [outer_turn]
  obtain ⟨vs, hpl, hvs⟩ := L1.acc
  obtain ⟨n0, hD⟩ := id hpl
  obtain ⟨oi, hoi, vi, hdi⟩ := L1.src.alive
  have hDi : D ≠ it := by rintro rfl; rw [hD] at hoi; cases hoi; cases hdi
  have hiout : it ∉ ownOf env := kind_off L1.out hoi (by intro _ _ e; rw [hdi] at e; cases e) (by intro _ e; rw [hdi] at e; cases e)
  have hiin : it ∉ ownOf cenv := kind_off L1.inn hoi (by intro _ _ e; rw [hdi] at e; cases e) (by intro _ e; rw [hdi] at e; cases e)
  have hDin : D ∉ ownOf cenv := kind_off L1.inn hD (by intro _ _ e; cases e) (by intro _ e; cases e)
  have hDC : D ≠ cenv.locals := fun e => hDin (e ▸ List.mem_cons_self ..)
  have hiC : it ≠ cenv.locals := fun e => hiin (e ▸ List.mem_cons_self ..)
  refine wpAny_bind (wpAny_standAt (wpAny_bind ?_))
  rcases Nat.lt_or_ge i S.items.length with hlt | hge
  · have hx : S.items[i]? = some S.items[i] := List.getElem?_eq_getElem hlt
    have tst := turn i _ ys H1 hx L1.ok hI1
    refine Src.next L1.cur L1.ok L1.src hx fun v h2 tk τ2 htk ht2 hb2 hv hs2 at2 => ?_
    have C2 := L1.cur.off hs2.extBut L1.itN hiB ht2 hb2
    have X2 := L1.out.off hs2.extBut hiout ht2 tk
    have Y2 := L1.inn.off hs2.extBut hiin ht2 tk
    have D2 : h2.PlainList D vs.toArray := hpl.at fun o e => hs2.extBut D o hDi e
    have St2 : Step [it, cenv.locals, D] H0 H1 τ τ2 s { s1 with heap := h2, toks := tk } := by
      refine S1.trans (own' := [it]) ⟨ht2, rfl, fun _ _ h => h, fun h => h, fun b o e _ hb => like (hs2.extBut b o (by simpa using hb) e), fun _ _ _ h => h, fun b o e => ?_⟩ (fun b _ _ hb => by simp at hb; simp [hb])
      by_cases q : b = it
      · subst q; obtain ⟨o', e', _⟩ := at2.alive; exact ⟨o', e'⟩
      · exact ⟨o, hs2.extBut b o q e⟩
    refine wpAny_bind (wpAny_of_eq (show letOwnedTupleGo (.Name x0 px0) (.ref it) v = pure () from rfl) (wpAny_bind ?_))
    refine wpAny_assign_Name (storeL C2 Y2 hv hkx fun s3 C3 Y3 S3 => ?_)
    have at3 := at2.mono (h' := s3.heap) fun o e nd => S3.keepS it o e nd L1.itN (by simpa using hiC)
    have D3 : s3.heap.PlainList D vs.toArray := plain_at D2 fun o e nd => S3.keepS D o e nd L1.accN (by simpa using hDC)
    have X3 : EnvAt hB env Γ τ2 s3 := X2.keeps (.refl _) fun a ha o e => S3.keep a o e (X2.none C2 a ha) (by rintro q; rw [List.mem_singleton.mp q] at ha; exact hCo ha)
    have St3 : Step [it, cenv.locals, D] H0 H1 τ τ2 s s3 := St2.trans S3 (fun b _ _ hb => by simp at hb; simp [hb])
    have wk : ∀ τ s', EnvAt hB cenv (put Γx x0 S.items[i]) τ s' → EnvAt hB cenv Γx τ s' := fun τ s' Y => Y.weaken fun y cv e => by
      rw [put_ne _ _ (by rintro rfl; rw [hxN] at e; cases e)]; exact e
    refine wpAny_bind (wpAny_mono (tst τ2 s3 _ C3 Y3) (fun xv s4 h4 => ?_) fun _ _ e => e)
    refine wpAny_bind (wpAny_standAt (wpAny_bind (wpAny_of_eq (hs1 xv) (wpAny_bind (wpAny_holding (wpAny_mono h4 (fun itv s5 h5 => ?_) fun _ _ e => e))))))
    obtain ⟨ia, Sa, H5, τ5, rfl, C5, S5, ia0, iaH, iaB, ok5, at5, Inv1, hI5, turn1, done1⟩ := h5
    have itat5 := at3.mono (h' := s5.heap) fun o e nd => S5.keepS it o e nd L1.itN (by simp)
    have D5 : s5.heap.PlainList D vs.toArray := plain_at D3 fun o e nd => S5.keepS D o e nd L1.accN (by simp)
    have X5 := X3.step C3 S5
    have Y5 := Y3.step C3 S5
    have St5 : Step [it, cenv.locals, D] H0 H5 τ τ5 s s5 := St3.trans S5 (fun b _ _ hb => by simp at hb)
    obtain ⟨o3, e3, _⟩ := at3.alive
    have hi5 := S5.sep it o3 e3 L1.itN
    obtain ⟨n3, e3'⟩ := id D3
    have hD5 := S5.sep D _ e3' L1.accN
    have hv5 := (hvs.mono ht2).mono S5.tc
    have hia : s.heap.get? ia = none := St3.dead ia0
    have hiai : it ≠ ia := by rintro rfl; rw [ia0] at e3; cases e3
    obtain ⟨oi5, ei5, vi5, hdi5⟩ := itat5.alive
    have inner : codeAny (model prog w) A (.compLoop (.ListComp elt [⟨.Name x0 px0, it0, [], 0⟩, ⟨.Name x1 px1, it1, [], 0⟩] scope pos) 1 (.ref ia) (.ref D) cenv)
        (fun r s' => match r with
          | .ok _ => wpAny (model prog w) A (again (.compLoop (.ListComp elt [⟨.Name x0 px0, it0, [], 0⟩, ⟨.Name x1 px1, it1, [], 0⟩] scope pos) 0 (.ref it) (.ref D) cenv))
              (fun fin s' => match fin with | .done f => R (.ok f) s' | .again c' => c' = .compLoop (.ListComp elt [⟨.Name x0 px0, it0, [], 0⟩, ⟨.Name x1 px1, it1, [], 0⟩] scope pos) 0 (.ref it) (.ref D) cenv ∧ ∃ m, m < S.items.length - i ∧ ∃ i ys H' τ', m = S.items.length - i ∧ i ≤ S.items.length ∧ Inv i ys H' ∧ Lp hB env cenv Γ Γx D it S i ys H' τ' s' ∧ Step [it, cenv.locals, D] H0 H' τ τ' s s')
              (notedBy (model prog w) A cenv fun e s' => R (.error e) s') s'
          | .error e => cameBackBy (model prog w) A cenv (notedBy (model prog w) A cenv fun e s' => R (.error e) s') e s') s5 := by
      refine loop_last (cenv := cenv) (env := env) (Γ := Γ) (Γx := put Γx x0 S.items[i]) (elt := elt) (iter := it1) (x := x1) (px := px1) (ifs := []) (S := Sa) Inv1 (ys0 := ys) (by rfl) hR.1 hkx1 (by rw [put_ne _ _ hx01]; exact hxN1) hDB iaB hCo hI5
        ⟨C5, X5, Y5, ok5, at5, iaH, ⟨vs, D5, hv5⟩, hD5⟩ (fun j xj zs H3 a b c => ?_) ?_
      · obtain ⟨d, e⟩ := turn1 j xj zs H3 a b c
        exact ⟨d, by simpa [Tests] using e⟩
      · rintro zs H6 τ6 s6 hI6 C6 X6 Y6 ⟨s7, h7, tk7, S7, hs7, e7⟩ acc6 hD6
        obtain ⟨okS, hInv⟩ := done1 zs H6 hI6
        have St7 : Step [it, cenv.locals, D] H0 H6 τ τ6 s s7 := St5.trans S7 (fun b o e hb => by
          simp only [List.mem_cons, List.not_mem_nil, or_false] at hb ⊢
          rcases hb with rfl | rfl | rfl
          · rw [hia] at e; cases e
          · exact .inr (.inl rfl)
          · exact .inr (.inr rfl))
        have St6 : Step [it, cenv.locals, D] H0 H6 τ τ6 s s6 := by rw [e7]; exact St7.off hs7 hia (.refl _) tk7
        have hk7 : ∀ o, s5.heap.get? it = some o → (∀ es n, o.data ≠ .dict es n) → s6.heap.get? it = some o := fun o e nd => by
          rw [e7]
          exact hs7 it o hiai (S7.keepS it o e nd hi5 (by simp [hiai, hiC, Ne.symm hDi]))
        have hi6 : H6 it = none := S7.sep it oi5 ei5 hi5
        exact wpAny_pure ⟨rfl, S.items.length - (i + 1), by (clear hCo turn done hs1 hi hDi hiout hiin hDin hDC hiC htk hb2 wk turn1 done1 hiai hk7; omega), i + 1, zs, H6, τ6, rfl, hlt, hInv, ⟨C6, X6, wk _ _ Y6, okS, itat5.mono hk7, hi6, acc6, hD6⟩, St6⟩
    refine wpAny_bind (wpAny_runOwn ?_)
    exact start1 inner (Src.self hR.1 at5 inner)
  · have hie : i = S.items.length := Nat.le_antisymm hi hge
    subst hie
    refine Src.end hR.1 L1.cur L1.ok L1.src fun h2 hs2 => ?_
    exact wpAny_pure (done ys H1 τ1 _ hI1 (L1.cur.off hs2 L1.itN hiB (.refl _) L1.cur.top) (L1.out.off hs2 hiout (.refl _) _) (L1.inn.off hs2 hiin (.refl _) _) ⟨s1, h2, _, S1, hs2, rfl⟩ ⟨vs, hpl.at fun o e => hs2 D o hDi e, hvs⟩ L1.accN)

theorem comp2_run {elt it0 it1 : Expr} {x0 x1 : Str} {px0 px1 : Pos} {scope : Scope} {cl : List (Str × Addr)} {pos : Pos} {τ : TC} {s : Shared} {E : Value → Shared → Prop} {P : List CV → H → Prop} {R : Value → Addr → Result → Shared → Prop} (hR : Room hB 0 A) (K : CompOk env scope cl x0)
    (hx1 : scope.names.lookup x1 = some .local) (hx01 : x1 ≠ x0) (hs1 : ∀ Ca x, foldedSetIterable it1 (compEnvC scope cl Ca env) x = pure x)
    (h : Comp2 prog w hB A env elt it0 it1 x0 x1 scope cl Γ Hc P) (C : Cur hB Hc τ s) (X : EnvAt hB env Γ τ s)
    (hfin : ∀ D Ca ys H' τ' s', P ys H' → Done hB env Γ Ca D τ s Hc ys H' τ' s' → R (.ref D) Ca (.ok .next) s') :
    wpAny (model prog w) A (eval it0 env) (fun xv s1 => wpAny (model prog w) A (pyIter xv) (fun it s2 => wpAny (model prog w) A (newList []) (fun acc s₃ => wpAny (model prog w) A (newFunctionEnv scope env.globals cl [] env.qual none .none (some env)) (fun cenv s₄ =>
      codeAny (model prog w) A (.compStart (.ListComp elt [⟨.Name x0 px0, it0, [], 0⟩, ⟨.Name x1 px1, it1, [], 0⟩] scope pos) 0 it acc { cenv with scope := relabel scope env }) (R acc cenv.locals) s₄) E s₃) E s2) E s1) E s := by
  refine wpAny_mono (h τ s E C X) (fun xv s1 h1 => wpAny_mono h1 (fun itv s2 h2 => ?_) fun _ _ e => e) fun _ _ e => e
  obtain ⟨it, S, H1, τ2, rfl, C2, S2, hit0, hitH, hitB, ok, at0, Inv, hI0, turn, done⟩ := h2
  refine comp_start (R := R) K X C C2 S2 at0 ok hitH fun D Ca s4 hC0 hD0 hCB hDB hCo L S4 => ?_
  have loop : codeAny (model prog w) A (.compLoop (.ListComp elt [⟨.Name x0 px0, it0, [], 0⟩, ⟨.Name x1 px1, it1, [], 0⟩] scope pos) 0 (.ref it) (.ref D) (compEnvC scope cl Ca env)) (R (.ref D) Ca) s4 := by
    refine loop_outer (cenv := compEnvC scope cl Ca env) (env := env) (Γ := Γ) (S := S) Inv hR (lookup_relabel_local K.var) (compG_local K.var) (lookup_relabel_local hx1) (compG_local hx1) hx01 hDB hitB hCo hI0 L (fun i xi ys H' => turn Ca i xi ys H') ?_ (hs1 Ca)
    rintro ys H' τ' s' hI C' X' Y' ⟨s1', h', tk, S1, hs, e⟩ acc hDN
    exact hfin D Ca ys H' τ' s' (done ys H' hI) (Done.intro (cenv := compEnvC scope cl Ca env) S4 hit0 hC0 hD0 hCB hDB hCo C' X' Y' S1 hs e acc hDN)
  exact codeAny_compStart_list loop (Src.self hR.1 L.src loop)
theorem Ev.comp2 {elt it0 it1 : Expr} {x0 x1 : Str} {px0 px1 : Pos} {scope : Scope} {cl : List (Str × Addr)} {pos : Pos} {P : CV → H → Prop} (hR : Room hB 0 A) (K : CompOk env scope cl x0)
    (h : Comp2 prog w hB A env elt it0 it1 x0 x1 scope cl Γ Hc fun ys H' => ∀ a, H' a = none → P (.r a) (upd H' a (.list ys)))
    (hx1 : scope.names.lookup x1 = some .local := by rfl) (hx01 : x1 ≠ x0 := by decide) (hs1 : ∀ Ca x, foldedSetIterable it1 (compEnvC scope cl Ca env) x = pure x := by intro _ _; rfl)
    (hs : ∀ x, foldedSetIterable it0 env x = pure x := by intro _; rfl) : Ev prog w hB A env (eval (.ListComp elt [⟨.Name x0 px0, it0, [], 0⟩, ⟨.Name x1 px1, it1, [], 0⟩] scope pos) env) Γ Hc P := by
  intro τ s E C X
  rw [eval_ListComp]
  refine wpAny_comprehension_free (use := none) rfl hs K.clos K.kind K.names ?_
  exact comp2_run (R := fun acc C => compPost (model prog w) A E none (Post hB Hc τ s P) acc C) hR K hx1 hx01 hs1 h C X fun D Ca ys H' τ' s' p dn => Ev.ofDone p dn
end
end Mine

set_option maxRecDepth 100000
set_option maxHeartbeats 1000000
namespace Mine
theorem AllIs.set {τ : TC} : ∀ {vs : List Value} {xs : List CV} (k : Nat) {v : Value} {x : CV}, AllIs τ vs xs → Is τ v x → AllIs τ (vs.set k v) (xs.set k x)
  | [], [], _, _, _, _, _ => by simp [AllIs]
  | _ :: _, _ :: _, 0, _, _, h, hx => ⟨hx, h.2⟩
  | _ :: _, _ :: _, k + 1, _, _, h, hx => ⟨h.1, AllIs.set k h.2 hx⟩
  | [], _ :: _, _, _, _, x, _ => x.elim
  | _ :: _, [], _, _, _, x, _ => x.elim
theorem AllIs.rep {τ : TC} {v : Value} {x : CV} (h : Is τ v x) : ∀ n, AllIs τ (List.replicate n v) (List.replicate n x)
  | 0 => trivial
  | n + 1 => ⟨h, AllIs.rep h n⟩
theorem foldl_rep (v : Value) : ∀ (n : Nat) (acc : Array Value), (List.foldl (fun x1 x2 => x1 ++ x2) acc (List.replicate n #[v])) = acc ++ (List.replicate n v).toArray
  | 0, acc => by simp
  | n + 1, acc => by
    rw [List.replicate_succ, List.foldl_cons, foldl_rep v n, List.replicate_succ]
    apply Array.ext'; simp
section
variable {prog : Program} {w : World} {hB : BB} {A : Around} {env : Env} {Γ : G} {Hc : H} {mg mb : Str → Option Value}

theorem set_item {l : Addr} {xs : List CV} {ci cv : CV} {k : Int} {τ : TC} {s : Shared} {E : Value → Shared → Prop} {Q : Unit → Shared → Prop} {vi v : Value} (C : Cur hB Hc τ s) (hl : Hc l = some (.list xs)) (hi : Is τ vi ci) (hk : intOf ci = some k) (hv : Is τ v cv)
    (h0 : 0 ≤ k) (h1 : k < 2 ^ 63) (h2 : k.toNat < xs.length)
    (h : ∀ s', Cur hB (upd Hc l (.list (xs.set k.toNat cv))) τ s' → Step [] Hc (upd Hc l (.list (xs.set k.toNat cv))) τ τ s s' → Q () s') : wpAny (model prog w) A (setItem (.ref l) vi v) Q E s := by
  obtain ⟨t, rfl⟩ := is_int hi hk
  obtain ⟨vs, ⟨n, ho⟩, hvs⟩ := C.hok l _ hl
  have hlen := hvs.len
  refine ki_setAt ho h0 h1 (by rw [List.size_toArray]; (clear h; omega)) ?_
  have hp := plain_update (fun xs => xs.setIfInBounds k.toNat v) ho
  have z := C.set (h' := s.heap.update l (Obj.mapSeq fun xs => xs.setIfInBounds k.toNat v)) (co := .list (xs.set k.toNat cv)) (Heap.SameBut.update ..).extBut hl
    ⟨vs.set k.toNat v, by simpa using hp, hvs.set _ hv⟩ (Nat.le_refl s.toks)
  exact h _ z.1 z.2

/-- a target's store -/
def As (prog : Program) (w : World) (hB : BB) (A : Around) (env : Env) (t : Value → Sem Unit) (cv : CV) (Γ : G) (Hc : H) (Q : G → H → Prop) : Prop :=
  ∀ (τ : TC) (s : Shared) (E : Value → Shared → Prop) (v : Value), Is τ v cv → Cur hB Hc τ s → EnvAt hB env Γ τ s →
    wpAny (model prog w) A (t v) (fun _ s' => ∃ Γ' H' τ', Cur hB H' τ' s' ∧ EnvAt hB env Γ' τ' s' ∧ Step (ownOf env) Hc H' τ τ' s s' ∧ Q Γ' H') E s
theorem As.name {x : Str} {px : Pos} {cv : CV} {Q : G → H → Prop} (h : Q (put Γ x cv) Hc) (hk : env.kindOf x = some .local ∨ env.kindOf x = some .cell := by first | exact .inl rfl | exact .inr rfl) :
    As prog w hB A env (fun v => PySem.assign (.Name x px) env v) cv Γ Hc Q :=
  fun τ s E v hv C X => wpAny_assign_Name (store C X hv hk fun s' C' X' S' => ⟨_, Hc, τ, C', X', S', h⟩)
theorem As.sub {o i : Expr} {pos : Pos} {cv : CV} {Q : G → H → Prop}
    (h : Ev prog w hB A env (eval o env) Γ Hc fun ov H1 => Ev prog w hB A env (eval i env) Γ H1 fun iv H2 => ∃ l xs k, ov = .r l ∧ intOf iv = some k ∧ H2 l = some (.list xs) ∧ 0 ≤ k ∧ k < 2 ^ 63 ∧ k.toNat < xs.length ∧ Q Γ (upd H2 l (.list (xs.set k.toNat cv)))) :
    As prog w hB A env (fun v => PySem.assign (.Subscript o i pos) env v) cv Γ Hc Q := by
  intro τ s E v hv C X
  refine kas_sub (wpAny_mono (h τ s E C X) (fun ov s1 ⟨co, H1, τ1, ho, C1, S1, k1⟩ => ?_) fun _ _ e => e)
  refine wpAny_mono (k1 τ1 s1 E C1 (X.step C S1)) (fun iv s2 ⟨ci, H2, τ2, hi, C2, S2, l, xs, k, e1, hk, hl, h0, h1, h2, q⟩ => ?_) fun _ _ e => e
  subst e1
  rw [is_r ho]
  refine set_item C2 hl hi hk ((hv.mono S1.tc).mono S2.tc) h0 h1 h2 fun s3 C3 S3 => ?_
  exact ⟨Γ, _, τ2, C3, ((X.step C S1).step C1 S2).step C2 S3, ((S1.trans0 S2).trans0 S3).wide (by simp), q⟩
def AsL (prog : Program) (w : World) (hB : BB) (A : Around) (env : Env) (ts : List (Value → Sem Unit)) (cvs : List CV) (Γ : G) (Hc : H) (Q : G → H → Prop) : Prop :=
  ∀ (τ : TC) (s : Shared) (E : Value → Shared → Prop) (vs : List Value), AllIs τ vs cvs → Cur hB Hc τ s → EnvAt hB env Γ τ s →
    wpAny (model prog w) A (assignInOrder ts vs) (fun _ s' => ∃ Γ' H' τ', Cur hB H' τ' s' ∧ EnvAt hB env Γ' τ' s' ∧ Step (ownOf env) Hc H' τ τ' s s' ∧ Q Γ' H') E s
theorem AsL.nil {Q : G → H → Prop} (h : Q Γ Hc) : AsL prog w hB A env [] [] Γ Hc Q :=
  fun τ s _ vs _ C X => PyProof.Rows.assignInOrder_nil ⟨Γ, Hc, τ, C, X, Step.refl _ _ _ _, h⟩
theorem AsL.cons {t : Value → Sem Unit} {ts : List (Value → Sem Unit)} {c : CV} {cs : List CV} {Q : G → H → Prop} (h : As prog w hB A env t c Γ Hc fun Γ1 H1 => AsL prog w hB A env ts cs Γ1 H1 Q) : AsL prog w hB A env (t :: ts) (c :: cs) Γ Hc Q := by
  intro τ s E vs hvs C X
  cases vs with
  | nil => exact hvs.elim
  | cons v vs =>
    refine PyProof.Rows.assignInOrder_cons (wpAny_mono (h τ s E v hvs.1 C X) (fun _ s1 ⟨Γ1, H1, τ1, C1, X1, S1, k⟩ => ?_) fun _ _ e => e)
    exact wpAny_mono (k τ1 s1 E vs (hvs.2.mono S1.tc) C1 X1) (fun _ s2 ⟨Γ2, H2, τ2, C2, X2, S2, q⟩ => ⟨Γ2, H2, τ2, C2, X2, S1.transOwn S2, q⟩) fun _ _ e => e
theorem Ex.assignSub {o i value : Expr} {p pos : Pos} {Q : CF → G → H → Prop}
    (h : Ev prog w hB A env (eval value env) Γ Hc fun cv H1 => As prog w hB A env (fun v => PySem.assign (.Subscript o i p) env v) cv Γ H1 fun Γ' H' => Q .next Γ' H')
    (hs : swapsWith value (some (.Subscript o i p)) pos.line env = pure false := by rfl) :
    Ex prog w hB A env (exec (.Assign [.Subscript o i p] value pos) env) Γ Hc Q := by
  intro τ s E C X
  rw [show exec (.Assign [.Subscript o i p] value pos) env = _ from exec_Assign_Subscript o i p value pos hs]
  refine wpAny_bind (wpAny_standAt (wpAny_bind (wpAny_mono (h τ s E C X) (fun v s1 ⟨cv, H1, τ1, hv, C1, S1, k⟩ => ?_) fun _ _ e => e)))
  refine wpAny_bind (wpAny_mono (k τ1 s1 _ v hv C1 (X.step C S1)) (fun _ s2 ⟨Γ2, H2, τ2, C2, X2, S2, q⟩ => ?_) fun _ _ e => e)
  exact wpAny_pure ⟨.next, Γ2, H2, τ2, trivial, C2, X2, S1.trans0 S2, q⟩
theorem Ex.assignTup {elts : List Expr} {n : Nat} {value : Expr} {p pos : Pos} {Q : CF → G → H → Prop} (hR : Room hB 0 A)
    (h : Ev prog w hB A env (eval value env) Γ Hc fun v H1 => ∃ a xs, v = .r a ∧ H1 a = some (.tup xs) ∧ xs.length = (assignEach elts env).length ∧ AsL prog w hB A env ((assignEach elts env).map (·.2)) xs Γ H1 fun Γ' H' => Q .next Γ' H')
    (hstar : (assignEach elts env).findIdx? (·.1) = none := by rfl)
    (hs : swapsWithSole [.Tuple elts n p] value pos.line env = pure false := by rfl) (hw : swappedStores [.Tuple elts n p] value env = pure none := by rfl) :
    Ex prog w hB A env (exec (.Assign [.Tuple elts n p] value pos) env) Γ Hc Q := by
  intro τ s E C X
  refine wpAny_Assign_stores (wpAny_mono (h τ s E C X) (fun v s1 ⟨cv, H1, τ1, hv, C1, S1, a, xs, e1, ha, hn, k⟩ => ?_) fun _ _ e => e) hs hw
  subst e1
  rw [is_r hv]
  obtain ⟨vs, hT, hvs⟩ := C1.hok a _ ha
  show wpAny _ _ (PySem.assign (.Tuple elts n p) env (.ref a)) _ _ _
  have hd := fresh_none s1.heap
  have X1 := X.step C S1
  refine wpAny_assign_Tuple hR.1 hT (by rw [List.size_toArray, hvs.len, hn]) hstar fun h2 hs2 => ?_
  have C2 := C1.off hs2 (C1.new hd) (C1.baseDead hd) (.refl _) C1.top
  have X2 := X1.off hs2 (notOwn X1 hd) (.refl _) s1.toks
  have S2 := S1.off hs2 (S1.dead hd) (.refl _) s1.toks
  refine wpAny_mono (k τ1 _ _ vs hvs C2 X2) (fun _ s3 ⟨Γ3, H3, τ3, C3, X3, S3, q⟩ => ?_) fun _ _ e => e
  exact ⟨.next, Γ3, H3, τ3, trivial, C3, X3, S2.trans0 S3, q⟩

theorem Op2.mull {l : Addr} {x : CV} {cn : CV} {n : Int} {P : CV → H → Prop} (hl : Hc l = some (.list [x])) (h0 : 0 ≤ n) (h1 : n ≤ 1000000) (h : ∀ c, Hc c = none → P (.r c) (upd Hc c (.list (List.replicate n.toNat x)))) (hn : intOf cn = some n := by rfl) :
    Op2 prog w hB A (binaryOp .Mult) (.r l) cn Hc P := by
  intro τ va vb hva hvb s E C
  rw [is_r hva]
  obtain ⟨u, rfl⟩ := is_int hvb hn
  obtain ⟨vs, ⟨k, ho⟩, hv⟩ := C.hok l _ hl
  obtain ⟨v, rfl, hv1⟩ := one_arg hv
  refine wpAny_binaryOp_repeat_ref (T := "list") (U := "int") (by decide) ⟨_, ho, rfl⟩ (fun s' => typeIs_int s' n u) noFill_list_mul F.fills_int_mul F.slot_int_rmul repeat_list F.slot_int_index.lookup
    (call_meets F.slot_int_rmul (typeIs_int s n u) F.entry_int_rmul (F.args_int_rmul_2 _ _) (int___rmul___int_list n u l _ k)
      ⟨ho, rfl, ⟨_, ho, rfl⟩, call_meets F.slot_list_mul ⟨_, ho, rfl⟩ F.entry_list_mul (F.args_list_mul_2 _ _)
        (AutoListH.list___mul___list_int_3 l _ k n u (by simp [Builtin.List.listFitsIndex]; (clear h; omega)) (by simp; (clear h; omega)) (by simp [Builtin.List.listTooLong, sizeLine]; (clear h; omega)))
        ⟨ho, ?_⟩⟩)
  have e1 : (List.foldl (fun x1 x2 => x1 ++ x2) #[] (List.replicate (if ([v].toArray).isEmpty = true then 0 else n.toNat) [v].toArray)) = (List.replicate n.toNat v).toArray := by
    rw [if_neg (by simp)]
    have := foldl_rep v n.toNat #[]
    simpa using this
  have := Post.alloc (P := P) C (o := { cls := .type "list", data := .seq (List.replicate n.toNat v).toArray }) (co := .list (List.replicate n.toNat x)) (isList_push _ (AllIs.rep hv1 _)) (Nat.le_refl s.toks) h
  rw [← e1] at this
  exact this

/-- `table == []` -/
def IsTable (Hc : H) (xs : List CV) : Prop := ∀ x ∈ xs, ∃ l ys ns, x = .r l ∧ Hc l = some (.list ys) ∧ IsInts ys ns
theorem reads_table {τ : TC} {s : Shared} (C : Cur hB Hc τ s) : ∀ {vs : List Value} {xs : List CV}, AllIs τ vs xs → IsTable Hc xs → ∃ nss : List (List Int), ∃ as, nss.length = xs.length ∧ ReadsAll s.heap vs (nss.map fun ns => PyData.list (ns.map PyData.int)) as
  | [], [], _, _ => ⟨[], [], rfl, .nil⟩
  | [], _ :: _, h, _ => h.elim
  | _ :: _, [], h, _ => h.elim
  | v :: vs, x :: xs, h, hT => by
    obtain ⟨l, ys, ns, rfl, hl, hi⟩ := hT x (List.mem_cons_self ..)
    obtain ⟨us, hL, hu⟩ := C.hok l _ hl
    obtain ⟨nss, as, e, r⟩ := reads_table C h.2 fun y hy => hT y (List.mem_cons_of_mem _ hy)
    rw [is_r h.1]
    exact ⟨ns :: nss, _, by simp [e], .cons (reads_of_ints hL.isList (ints_are hu hi)) r⟩
theorem canLayAll0_table : ∀ nss : List (List Int), PyData.canLayAll0 (nss.map fun ns => PyData.list (ns.map PyData.int)) = true
  | [] => by simp [PyData.canLayAll0]
  | n :: r => by simp [PyData.canLayAll0, PyData.canLay0, canLayAll0_ints n, canLayAll0_table r]
theorem depthAll_table : ∀ nss : List (List Int), PyData.depthAll (nss.map fun ns => PyData.list (ns.map PyData.int)) ≤ 3
  | [] => by simp [PyData.depthAll]
  | n :: r => by
    have h1 := depthAll_table r
    have h2 := PySem.W.depthAll_ints n
    simp only [List.map_cons, PyData.depthAll, PyData.depth]
    omega
theorem shaped_table (nss : List (List Int)) : PySem.SeqAt.shaped (.list (nss.map fun ns => PyData.list (ns.map PyData.int))) = true := by
  have h1 := depthAll_table nss
  have h2 : PyData.depth (.list (nss.map fun ns => PyData.list (ns.map PyData.int))) ≤ 64 := by simp only [PyData.depth]; omega
  show (PyData.canLay0 _ && decide (PyData.depth _ ≤ 64)) = true
  rw [Bool.and_eq_true]
  exact ⟨by simp only [PyData.canLay0]; exact canLayAll0_table nss, decide_eq_true h2⟩
theorem Op2.eqNoTable {a b : Addr} {xs : List CV} {P : CV → H → Prop} (hR : Room hB 0 A) (ha : Hc a = some (.list xs)) (hT : IsTable Hc xs) (hb : Hc b = some (.list [])) (h : P (.b xs.isEmpty) Hc) :
    Op2 prog w hB A (compareOp .Eq) (.r a) (.r b) Hc P := by
  intro τ va vb hva hvb s E C
  rw [is_r hva, is_r hvb]
  obtain ⟨vs, hL, hv⟩ := C.hok a _ ha
  obtain ⟨us, hL', hu⟩ := C.hok b _ hb
  obtain ⟨nss, as, e, r⟩ := reads_table C hv hT
  obtain ⟨o, ho, hc, n, hd⟩ := hL.isList
  refine eq_dataH_same (Reads.list ho hc hd (by simpa using r)) (reads_of_ints (ns := []) hL'.isList (ints_are hu rfl)) (shaped_table nss) (shaped_ints []) hR.units ?_ ?_
  · cases nss <;> simp [PySem.SeqAt.noMix, PySem.SeqAt.noMixAll]
  · have : PySem.Spec.same (.list (nss.map fun ns => PyData.list (ns.map PyData.int))) (.list (([] : List Int).map PyData.int)) = xs.isEmpty := by
      cases xs <;> cases nss <;> first | (simp at e; done) | simp [PySem.Spec.same, PySem.Spec.sameAll]
    rw [this]
    exact Post.here rb C h (Nat.le_refl _)

theorem Ex.assignComp2 {y : Str} {py : Pos} {spos : Pos} {elt it0 it1 : Expr} {x0 x1 : Str} {px0 px1 : Pos} {scope : Scope} {cl : List (Str × Addr)} {pos : Pos} {Q : CF → G → H → Prop} (hR : Room hB 0 A) (K : CompOk env scope cl x0)
    (h : Comp2 prog w hB A env elt it0 it1 x0 x1 scope cl Γ Hc fun ys H' => ∀ a, H' a = none → Q .next (put Γ y (.r a)) (upd H' a (.list ys)))
    (hx1 : scope.names.lookup x1 = some .local := by rfl) (hx01 : x1 ≠ x0 := by decide) (hs1 : ∀ Ca x, foldedSetIterable it1 (compEnvC scope cl Ca env) x = pure x := by intro _ _; rfl)
    (hsw : swapsWith (.ListComp elt [⟨.Name x0 px0, it0, [], 0⟩, ⟨.Name x1 px1, it1, [], 0⟩] scope pos) (some (.Name y py)) spos.line env = pure true := by rfl) (hy : env.kindOf y = some .local := by rfl)
    (hs : ∀ x, foldedSetIterable it0 env x = pure x := by intro _; rfl) : Ex prog w hB A env (exec (.Assign [.Name y py] (.ListComp elt [⟨.Name x0 px0, it0, [], 0⟩, ⟨.Name x1 px1, it1, [], 0⟩] scope pos) spos) env) Γ Hc Q := by
  intro τ s E C X
  rw [exec_Assign_Name_used _ _ _ _ hsw]
  refine wpAny_bind (wpAny_standAt (wpAny_bind ?_))
  show wpAny _ A (do let _ ← comprehension (.ListComp elt [⟨.Name x0 px0, it0, [], 0⟩, ⟨.Name x1 px1, it1, [], 0⟩] scope pos) scope env _ (newList []) false (eval it0 env) (some (PySem.assign (.Name y py) env))) _ _ s
  refine wpAny_bind (wpAny_mono (wpAny_comprehension_free (use := some (PySem.assign (.Name y py) env)) (Q := fun _ s' => PostX hB env Hc τ s Q .next s') rfl hs K.clos K.kind K.names
    (comp2_run (R := fun acc C => compPost (model prog w) A E (some (PySem.assign (.Name y py) env)) (fun _ s' => PostX hB env Hc τ s Q .next s') acc C) hR K hx1 hx01 hs1 h C X fun D Ca ys H' τ' s' p dn => Ex.ofDone hy p dn)) (fun _ s' p => ?_) fun _ _ e => e)
  exact wpAny_pure (wpAny_pure p)
end
end Mine

set_option maxRecDepth 100000
set_option maxHeartbeats 1000000
namespace Mine
section
variable {prog : Program} {w : World} {hB : BB} {A : Around} {env : Env} {Γ : G} {Hc : H} {mg mb : Str → Option Value}

/-! `iter(list)`, `next(iterator)` -/
theorem Bi.iter {l : Addr} {xs : List CV} {P : CV → H → Prop} (hl : Hc l = some (.list xs)) (h : ∀ a, Hc a = none → P (.r a) (upd Hc a (.iter l 0))) : Bi prog w hB A "iter" [.r l] Hc P := by
  intro τ s E vs hv C
  obtain ⟨v, rfl, hv1⟩ := one_arg hv
  rw [is_r hv1]
  obtain ⟨us, hL, hu⟩ := C.hok l _ hl
  refine call_function_entry (by decide +kernel) (by decide +kernel) kdk_entry_iter (kdk_args_iter _) ?_
  unfold Builtin.«iter»
  refine wpAny_bind (m := someArgs "iter" 1 2 _) (wpAny_of_eq (a := [Value.ref l]) (by first | rfl | kernel_rfl!) ?_)
  show wpAny _ _ (pyIter (.ref l) >>= _) _ _ _
  refine wpAny_bind (wpAny_pyIter_list hL.isList ?_)
  exact wpAny_pure ⟨_, rfl, Post.alloc C (co := .iter l 0) ⟨_, Heap.get?_push_size _ rfl, rfl, rfl⟩ (Nat.le_refl s.toks) h⟩
theorem special_next {it l : Addr} {i : Nat} {items : Array Value} {x : Value} {s : Shared} {E : Value → Shared → Prop} {Q : Option Value → Shared → Prop} (hit : s.heap.IsListIter it l i)
    (hl : s.heap.IsList l items) (hx : items[i]? = some x)
    (hQ : ∀ h', h'.IsListIter it l (i + 1) → Heap.SameBut it s.heap h' → Q (some x) { s with heap := h' }) :
    wpAny (model prog w) A (callSpecial? (.ref it) (Str.ofString "__next__")) Q E s := by
  obtain ⟨o, ho, hc, hd⟩ := id hit
  obtain ⟨ol, hol, _, nl, hdl⟩ := hl
  refine wpAny_callSpecial?_slot (name := Str.ofString "__next__") hit.typeIs slot_listiter_next
    (wpAny_call_entry slot_listiter_next hit.typeIs entry_listiter_next ?_ (args_listiter_next _))
  show wpAny _ _ (field (.ref it) 0 >>= _) _ _ s
  refine wpAny_bind (wpAny_field ho hd (x := .ref l) rfl ?_)
  show wpAny _ _ (if (Value.ref l == Value.none) = true then _ else _) _ _ s
  rw [if_neg (show ¬ ((Value.ref l == Value.none) = true) from Bool.false_ne_true)]
  show wpAny _ _ (field (.ref it) 1 >>= _) _ _ s
  refine wpAny_bind (wpAny_field ho hd (x := .int i 0) rfl ?_)
  show wpAny _ _ (seqItems? (.ref l) >>= _) _ _ s
  refine wpAny_bind (wpAny_seqItems hol hdl ?_)
  simp only [Int.toNat_natCast, hx]
  refine wpAny_bind (wpAny_setField ho hd (by simp) (wpAny_pure ⟨x, rfl, hQ _ ?_ (Heap.SameBut.update ..)⟩))
  exact ⟨_, Heap.get?_update_self _ ho (Obj.isFreed_of_fields (Obj.data_mapFields hd _)), (Obj.cls_mapFields ..).trans hc, by
    rw [Obj.data_mapFields hd]; simp [rawInt]⟩
theorem special_stop {it l : Addr} {i : Nat} {items : Array Value} {s : Shared} {E : Value → Shared → Prop} {Q : Option Value → Shared → Prop} (hh : A.handled = none) (hit : s.heap.IsListIter it l i)
    (hl : s.heap.IsList l items) (hx : items[i]? = none)
    (hE : ∀ h1 h' e, Heap.SameBut it s.heap h1 → (∃ o, h1.get? it = some o) → Heap.MadeExcOf h1 h' e (.type "StopIteration") [] → E (.ref e) { s with heap := h' }) :
    wpAny (model prog w) A (callSpecial? (.ref it) (Str.ofString "__next__")) Q E s := by
  obtain ⟨o, ho, hc, hd⟩ := id hit
  obtain ⟨ol, hol, _, nl, hdl⟩ := hl
  refine wpAny_callSpecial?_slot (name := Str.ofString "__next__") hit.typeIs slot_listiter_next
    (wpAny_call_entry slot_listiter_next hit.typeIs entry_listiter_next ?_ (args_listiter_next _))
  show wpAny _ _ (field (.ref it) 0 >>= _) _ _ s
  refine wpAny_bind (wpAny_field ho hd (x := .ref l) rfl ?_)
  show wpAny _ _ (if (Value.ref l == Value.none) = true then _ else _) _ _ s
  rw [if_neg (show ¬ ((Value.ref l == Value.none) = true) from Bool.false_ne_true)]
  show wpAny _ _ (field (.ref it) 1 >>= _) _ _ s
  refine wpAny_bind (wpAny_field ho hd (x := .int i 0) rfl ?_)
  show wpAny _ _ (seqItems? (.ref l) >>= _) _ _ s
  refine wpAny_bind (wpAny_seqItems hol hdl ?_)
  simp only [Int.toNat_natCast, hx]
  refine wpAny_bind (wpAny_rule (wpAny_bind (wpAny_setField ho hd (by simp) ?_)))
  show wpAny _ _ (newExc (.type "StopIteration") [] >>= _) _ _ _
  refine wpAny_bind ?_
  simp only [newExc, newTuple]
  refine wpAny_bind (wpAny_newObj_type ?_ (by size_fits))
  refine wpAny_bind (m := firstArgMember _ _) (wpAny_of_eq (a := Value.none) (by first | rfl | (simp only [firstArgMember]; rfl)) ?_)
  refine wpAny_newObj_type ?_ (by size_fits)
  simp only [raiseNew]
  refine wpAny_bind (wpAny_handled ?_)
  rw [show A.in1.handled = none from hh]
  refine wpAny_bind (wpAny_pure (wpAny_throw ?_))
  have dead : ∀ (h : Heap), h.get? h.objs.size = none := fresh_none
  refine hE _ _ _ (Heap.SameBut.update s.heap it (Obj.mapFields (·.setIfInBounds 0 .none))) ⟨_, Heap.get?_update_self _ ho (Obj.isFreed_of_fields (Obj.data_mapFields hd _))⟩ ⟨fun b o e => Heap.get?_push_of_some _ (Heap.get?_push_of_some _ e), ?_, _, ?_, fresh_none _, ?_⟩
  · exact Heap.get?_none_of_le (by simp)
  · exact Heap.get?_push_size _ rfl
  · exact Heap.get?_push_of_some _ (Heap.get?_push_size _ rfl)

theorem Bi.next {it l : Addr} {xs : List CV} {i : Nat} {x : CV} {P : CV → H → Prop} (hi : Hc it = some (.iter l i)) (hl : Hc l = some (.list xs)) (hx : xs[i]? = some x) (h : P x (upd Hc it (.iter l (i + 1)))) : Bi prog w hB A "next" [.r it] Hc P := by
  intro τ s E vs hv C
  obtain ⟨v, rfl, hv1⟩ := one_arg hv
  rw [is_r hv1]
  obtain ⟨us, hL, hu⟩ := C.hok l _ hl
  have hit : s.heap.IsListIter it l i := C.hok it _ hi
  obtain ⟨y, hy1, hy2⟩ := hu.get hx
  refine call_function_entry (by decide +kernel) (by decide +kernel) kdk_entry_next (kdk_args_next _) ?_
  unfold Builtin.«next»
  refine wpAny_bind (m := someArgs "next" 1 2 _) (wpAny_of_eq (a := [Value.ref it]) (by first | rfl | kernel_rfl!) ?_)
  dsimp only
  refine wpAny_bind (wpAny_specialOf (name := Str.ofString "__next__") hit.typeIs slot_listiter_next.lookup ?_)
  refine wpAny_ite_split (fun hab => absurd hab (by decide)) (fun _ => ?_)
  refine wpAny_bind (special_next hit hL.isList (x := y) (by simpa using hy1) fun h' hit' hs => ?_)
  obtain ⟨C2, S2⟩ := C.set (co := .iter l (i + 1)) hs.extBut hi hit' (Nat.le_refl s.toks)
  exact wpAny_pure ⟨_, rfl, x, _, τ, hy2, C2, S2, h⟩
theorem next_stop {it l : Addr} {xs : List CV} {i : Nat} {τ : TC} {s : Shared} {E Q : Value → Shared → Prop} (hh : A.handled = none) (C : Cur hB Hc τ s) (hi : Hc it = some (.iter l i)) (hl : Hc l = some (.list xs)) (hx : xs[i]? = none)
    (hE : ∀ h1 h' e, Heap.SameBut it s.heap h1 → (∃ o, h1.get? it = some o) → Heap.MadeExcOf h1 h' e (.type "StopIteration") [] → E (.ref e) { s with heap := h' }) : wpAny (model prog w) A (call (.builtin "next") [.ref it]) Q E s := by
  obtain ⟨us, hL, hu⟩ := C.hok l _ hl
  have hit : s.heap.IsListIter it l i := C.hok it _ hi
  refine call_function_entry (by decide +kernel) (by decide +kernel) kdk_entry_next (kdk_args_next _) ?_
  unfold Builtin.«next»
  refine wpAny_bind (m := someArgs "next" 1 2 _) (wpAny_of_eq (a := [Value.ref it]) (by first | rfl | kernel_rfl!) ?_)
  dsimp only
  refine wpAny_bind (wpAny_specialOf (name := Str.ofString "__next__") hit.typeIs slot_listiter_next.lookup ?_)
  refine wpAny_ite_split (fun hab => absurd hab (by decide)) (fun _ => ?_)
  have hlen := hu.len
  have hx' : us.toArray[i]? = none := by
    rw [List.getElem?_eq_none_iff] at hx
    simp; (clear hE; omega)
  exact wpAny_bind (special_stop hh hit hL.isList hx' hE)
end
end Mine

set_option maxRecDepth 100000
set_option maxHeartbeats 1000000
namespace Mine
def rem (f : H) (a : Addr) : H := fun b => if b = a then none else f b
theorem rem_self (f : H) (a : Addr) : rem f a a = none := by simp [rem]
theorem rem_ne (f : H) {a b : Addr} (h : b ≠ a) : rem f a b = f b := by simp [rem, h]
abbrev stopT : Value := .type "StopIteration"
/-- what stands when a StopIteration is under way, its frames noted as far as `l` -/
structure Rz (hB : BB) (l : List Env) (it : Addr) (s s' : Shared) (e : Addr) : Prop where
  body : ∃ B t, Heap.FlyingW B l e stopT (.ref t) s'.heap ∧ (∀ b o, hB.get? b = some o → B.get? b = some o) ∧
    (∀ b o, s.heap.get? b = some o → b ≠ it → (∀ es n, o.data ≠ .dict es n) → B.get? b = some o) ∧ ∃ o, B.get? it = some o
  sm : s.heap.UpToSlots s'.heap
  os : s'.os = s.os
  gens : s'.gens = s.gens
  toks : s'.toks = s.toks
section
variable {prog : Program} {w : World} {hB : BB} {A : Around} {env : Env} {Γ : G} {Hc : H} {mg mb : Str → Option Value} {it : Addr} {l : List Env}

theorem Rz.of {τ : TC} {s s' : Shared} {e : Addr} {k : Nat} {li : Addr} (R : Rz hB l it s s' e) (C : Cur hB Hc τ s) (hi : Hc it = some (.iter li k)) : ∀ b o, s.heap.get? b = some o → b ≠ it → ∃ o', s'.heap.get? b = some o' ∧ Like o o' := by
  intro b o e hb
  obtain ⟨B, t, fl, _, h2, _⟩ := R.body
  by_cases hd : ∃ es n, o.data = .dict es n
  · obtain ⟨es, n, hd⟩ := hd
    obtain ⟨sl, hs⟩ := R.sm b o e (fun vs q => by rw [hd] at q; cases q)
    exact ⟨_, hs, rfl, fun h => absurd hd (h es n)⟩
  · exact like (fl.1 b o (h2 b o e hb fun es n q => hd ⟨es, n, q⟩))
theorem Rz.cur {τ : TC} {s s' : Shared} {e : Addr} {k : Nat} {li : Addr} (R : Rz hB l it s s' e) (C : Cur hB Hc τ s) (hi : Hc it = some (.iter li k)) : Cur hB (rem Hc it) τ s' := by
  obtain ⟨B, t, fl, h1, h2, _⟩ := R.body
  refine ⟨C.pos, by rw [R.toks]; exact C.top, fun b o e => fl.1 b o (h1 b o e), fun b o e => ?_, fun a co e => ?_, fun L hL => ?_⟩
  · by_cases q : b = it
    · subst q; exact rem_self _ _
    · rw [rem_ne _ q]; exact C.bsep b o e
  · by_cases q : a = it
    · subst q; rw [rem_self] at e; cases e
    · rw [rem_ne _ q] at e
      obtain ⟨o, ho, hd, _⟩ := (C.hok a co e).obj
      exact (C.hok a co e).mono (.refl _) fun o' ho' => by rw [ho] at ho'; cases ho'; exact fl.1 a o (h2 a o ho q hd)
  · obtain ⟨o, ho, es, n, hd⟩ := C.fr L hL
    obtain ⟨sl, hs⟩ := R.sm L o ho (fun vs q => by rw [hd] at q; cases q)
    exact ⟨_, hs, es, n, hd⟩
theorem Rz.step {τ : TC} {s s' : Shared} {e : Addr} {k : Nat} {li : Addr} (R : Rz hB l it s s' e) (C : Cur hB Hc τ s) (hi : Hc it = some (.iter li k)) : Step [] Hc (rem Hc it) τ τ s s' where
  tc := .refl _
  os := R.os
  gens := fun i x h => by rw [R.gens]; exact h
  bare := fun h => by rw [R.gens]; exact h
  keep := fun b o h hn _ => R.of C hi b o h (by rintro rfl; rw [hi] at hn; cases hn)
  sep := fun b o h hn => by rw [rem_ne _ (by rintro rfl; rw [hi] at hn; cases hn)]; exact hn
  alive := fun b o h => by
    by_cases q : b = it
    · subst q
      obtain ⟨B, t, fl, _, _, o', e'⟩ := R.body
      exact ⟨o', fl.1 _ _ e'⟩
    · obtain ⟨o', e, _⟩ := R.of C hi b o h q; exact ⟨o', e⟩

/-- later: more slots, the same exception -/
theorem Rz.later {s s' s'' : Shared} {e : Addr} {h' : Heap} {B : Heap} {t : Addr} {l' : List Env} (R : Rz hB l it s s' e) (hB1 : (∀ b o, hB.get? b = some o → B.get? b = some o) ∧
    (∀ b o, s.heap.get? b = some o → b ≠ it → (∀ es n, o.data ≠ .dict es n) → B.get? b = some o) ∧ ∃ o, B.get? it = some o) (fl : Heap.FlyingW B l' e stopT (.ref t) h') (sm : s'.heap.UpToSlots h') (e1 : s'' = { s' with heap := h' }) : Rz hB l' it s s'' e := by
  subst e1
  exact ⟨⟨B, t, fl, hB1⟩, R.sm.trans sm, R.os, R.gens, R.toks⟩

/-- a call that raises StopIteration -/
def FnR (prog : Program) (w : World) (hB : BB) (d : Nat) (f : Addr) (args : List CV) (Hc : H) (it : Addr) (P : H → Prop) : Prop :=
  ∀ (A : Around) (τ : TC) (s : Shared) (vs : List Value) (l : List Env), Room hB d A → A.frames = some l → AllIs τ vs args → Cur hB Hc τ s →
    codeAny (model prog w) A (.call (.ref f) ⟨vs, []⟩) (fun r s' => ∃ e s1 H1 τ1, r = .error (.ref e) ∧ Step [] Hc H1 τ τ1 s s1 ∧ Cur hB H1 τ1 s1 ∧ P H1 ∧ Rz hB l it s1 s' e) s
def EvR (prog : Program) (w : World) (hB : BB) (A : Around) (env : Env) {α : Type} (t : Sem α) (Γ : G) (Hc : H) (it : Addr) (l : List Env) (P : H → Prop) : Prop :=
  ∀ (τ : TC) (s : Shared) (E : Value → Shared → Prop), Cur hB Hc τ s → EnvAt hB env Γ τ s →
    (∀ e s1 s' H1 τ1, Step [] Hc H1 τ τ1 s s1 → Cur hB H1 τ1 s1 → P H1 → Rz hB l it s1 s' e → E (.ref e) s') → wpAny (model prog w) A t (fun _ _ => False) E s
theorem EvR.callF {t1 : Sem Value} {ts : List (Bool × Sem Value)} {x : Str} {np pos : Pos} {es : List Expr} {f : Addr} {o : Obj} {fd : FuncData} {d : Nat} {P : H → Prop} (L : Gl hB mg mb) (hm : mg x = some (.ref f)) (ho : hB.get? f = some o) (hf : o.data = .func fd) (hR : Room hB d A) (hl : A.frames = some l)
    (h : EvL prog w hB A env pos es Γ Hc fun xs H1 => FnR prog w hB d f xs H1 it P)
    (hk : env.kindOf x = some .globalImplicit := by rfl) (ht1 : starEach es env = (false, t1) :: ts := by rfl) (ht : (starEach es env).all (fun t => !t.1) = true := by rfl)
    (hd : (x == ("__debug__" : Str)) = false := by decide) :
    EvR prog w hB A env (eval (.Call (.Name x np) es [] pos) env) Γ Hc it l P := by
  intro τ s E C X hE
  refine wpAny_Call_NameR (name_global L C X hk hm ?_ hd)
  refine callWith_function (o := o) (fd := fd) (evalArgs_of ht1 ?_)
  refine wpAny_mono (h τ s E C X) (fun vs s1 ⟨xs, H1, τ1, hv, C1, S1, k⟩ => ⟨⟨C1.base _ _ ho, hf⟩, ?_⟩) fun _ _ e => e
  refine wpAny_call (codeAny_mono (k A τ1 s1 vs l hR hl hv C1) (fun r s' ⟨e, s2, H2, τ2, er, S2, C2, p, rz⟩ => ?_))
  subst er
  exact hE e s2 s' H2 τ2 (S1.trans0 S2) C2 p rz
theorem EvR.append {o e : Expr} {apos pos : Pos} {P : H → Prop}
    (h : Ev prog w hB A env (eval o env) Γ Hc fun v H1 => ∃ l' xs0, v = .r l' ∧ H1 l' = some (.list xs0) ∧ EvR prog w hB A env (eval e env) Γ H1 it l P)
    (hbase : attributeBase o "append" env (eval o env) = eval o env := by rfl) (hline : (apos.endLine == pos.line) = true := by rfl) (htrees : backTo pos (starEach [e] env) = [(false, eval e env)] := by rfl) :
    EvR prog w hB A env (eval (.Call (.Attribute o "append" apos) [e] [] pos) env) Γ Hc it l P := by
  intro τ s E C X hE
  refine wpAny_Call_method1_late hbase hline htrees (wpAny_mono (h τ s E C X) (fun ov s1 ⟨cv, H1, τ1, hv, C1, S1, l', xs0, e1, hl0, k⟩ => ?_) fun _ _ e => e)
  subst e1
  rw [is_r hv]
  obtain ⟨vs0, ⟨n0, ho0⟩, _⟩ := C1.hok l' _ hl0
  refine ⟨"list", _, F.plainAttrs_list, F.slot_list_append, F.type_list_append, ⟨_, ho0, rfl⟩, (fun a e => ⟨_, by cases e; exact ho0, rfl⟩), PySem.P.append_list ?_⟩
  exact wpAny_mono (k τ1 s1 E C1 (X.step C S1) fun e s2 s' H2 τ2 S2 C2 p rz => hE e s2 s' H2 τ2 (S1.trans0 S2) C2 p rz) (fun _ _ f => f.elim) fun _ _ e => e
theorem EvR.expr {e : Expr} {pos : Pos} {rest : List Stmt} {P : H → Prop} (h : EvR prog w hB A env (eval e env) Γ Hc it l P)
    (hi : interactive env = false := by rfl) (hs : swapsWith e none pos.line env = pure false := by rfl) : EvR prog w hB A env (execs (.Expr e pos :: rest) env) Γ Hc it l P := by
  intro τ s E C X hE
  exact wpAny_execs_cons (wpAny_Expr_any (wpAny_mono (h τ s E C X hE) (fun _ _ f => f.elim) fun _ _ e => e) hi hs)

/-- the frames of the stack, as the library wants them -/
theorem funFrames_of {h base : Heap} : ∀ {l : List Env}, (∀ env ∈ l, env.scope.kind ≠ .module ∧ ∃ L o, env.frame = some L ∧ base.get? L = none ∧ h.get? L = some o ∧ ∃ es n, o.data = .dict es n) → h.FunFrames base l
  | [], _ => trivial
  | env :: r, k => by
    obtain ⟨a, L, o, b, c, d, es, n, e⟩ := k env (List.mem_cons_self ..)
    exact ⟨a, ⟨L, o, b, c, d, fun vs q => by rw [e] at q; cases q⟩, funFrames_of fun x hx => k x (List.mem_cons_of_mem _ hx)⟩
/-- a fresh StopIteration leaves the frame it was raised in -/
theorem leaves_stop {outer : List Env} {L it li : Addr} {k : Nat} {τ : TC} {s s' : Shared} {h1 : Heap} {e : Addr} {E : Value → Shared → Prop} {Q : Unit → Shared → Prop} (hl : A.frames = some (env :: outer)) (hlk : Link hB A) (hf : env.frame = some L)
    (C : Cur hB Hc τ s) (hi : Hc it = some (.iter li k)) (hs : Heap.SameBut it s.heap h1) (hlive : ∃ o, h1.get? it = some o) (hx : Heap.MadeExcOf h1 s'.heap e stopT []) (e1 : s' = { s with heap := s'.heap })
    (hQ : ∀ s'', Rz hB outer it s s'' e → Q () s'') : wpAny (model prog w) A (leaving env (.ref e)) Q E s' := by
  obtain ⟨l, hl', hk⟩ := hlk
  rw [hl] at hl'
  cases hl'
  obtain ⟨oi, hoi, _, hdi⟩ := (show s.heap.IsListIter it li k from C.hok it _ hi)
  have hfrm : ∀ a ∈ (env :: outer).filterMap (·.frame), a ∈ hB.fs ∧ hB.get? a = none := by
    intro a ha
    obtain ⟨x, hx, hxf⟩ := List.mem_filterMap.mp ha
    obtain ⟨_, L', q1, q2, q3⟩ := hk x hx
    rw [hxf] at q1; cases q1
    exact ⟨q2, q3⟩
  have hnit : ∀ a ∈ hB.fs, a ≠ it := by
    rintro a ha rfl
    obtain ⟨o, ho, es, n, hd⟩ := C.fr _ ha
    rw [hoi] at ho; cases ho; rw [hdi] at hd; cases hd
  have hkeep : ∀ b o, s.heap.get? b = some o → b ≠ it → h1.get? b = some o := fun b o e hb => hs.extBut b o hb e
  have F1 : h1.FunFrames (hideAll h1 ((env :: outer).filterMap (·.frame))) (env :: outer) := funFrames_of fun x hx => by
    obtain ⟨q0, L', q1, q2, q3⟩ := hk x hx
    obtain ⟨o, ho, hd⟩ := C.fr L' q2
    exact ⟨q0, L', o, q1, hideAll_none _ (List.mem_filterMap.mpr ⟨x, hx, q1⟩), hkeep L' o ho (hnit L' q2), hd⟩
  refine wpAny_leaves_madeW hl hf (fun b o q => of_hideAll _ q) F1 hx fun h' t x1 _ _ x4 => hQ _ ?_
  refine ⟨⟨_, t, x1, fun b o q => ?_, fun b o q hb hd => ?_, ?_⟩, ?_, ?_, ?_, ?_⟩
  · exact hideAll_get _ (hkeep b o (C.base b o q) (by rintro rfl; rw [C.bsep _ _ q] at hi; cases hi)) fun hm => by rw [(hfrm b hm).2] at q; cases q
  · exact hideAll_get _ (hkeep b o q hb) fun hm => by
      obtain ⟨o', ho', es, n, hd'⟩ := C.fr b (hfrm b hm).1
      rw [q] at ho'; cases ho'; exact hd _ _ hd'
  · obtain ⟨o, q⟩ := hlive
    exact ⟨o, hideAll_get _ q fun hm => hnit it (hfrm it hm).1 rfl⟩
  · exact fun b o q hn => by
      have hb : b ≠ it := by rintro rfl; rw [hoi] at q; cases q; exact hn _ hdi
      exact x4 b o (hx.keeps b o (hkeep b o q hb)) hn
  all_goals rw [e1]

/-- a def whose first deed is `x = next(it)`, at the iterator's end -/
theorem FnR.plain {d : DefRec} {a : Addr} {k li : Nat} {ki : Nat} {xs : List CV} {it : Addr} {P : H → Prop} (L : Gl hB mg mb) (F : FnIs hB mg d a) (hi : Hc it = some (.iter li ki)) (hli : Hc li = some (.list xs)) (hx : xs[ki]? = none) (hp : P Hc) (hmn : mg "next" = none)
    {x y : Str} {px py pn pc ps : Pos} {rest : List Stmt} (hb : d.body = .Assign [.Name x px] (.Call (.Name "next" pn) [.Name y py] [] pc) ps :: rest)
    (hbind : ∀ (vs : List Value) (pm code doc : Value), vs.length = 1 → bindArgs (docDef d.name d.params d.body d.scope pm code doc) ⟨vs, []⟩ = pure ([y].zip vs))
    (hloc : d.scope.names.lookup y = some .local) (hkn : d.scope.names.lookup ("next" : Str) = some .globalImplicit) (hdy : (y == ("__debug__" : Str)) = false)
    (hco : d.scope.isCoroutine = false := by rfl) (hgen : d.scope.isGenerator = false := by rfl) (hk : d.scope.kind = .function := by rfl)
    (hcell : ∀ x ∈ d.scope.names, x.2 ≠ .cell := by decide) : FnR prog w hB (k + 1) a [.r it] Hc it P := by
  intro A τ s vs l hR hl hv C
  obtain ⟨v, rfl, hv1⟩ := one_arg hv
  obtain ⟨o, pm, code, doc, hm, ho, hd, hcd⟩ := F
  have hlocs : ∀ z ∈ [y].zip [v], d.scope.names.lookup z.1 = some .local := fun z hz => by
    have := (List.of_mem_zip hz).1
    rw [List.mem_singleton.mp this]; exact hloc
  refine call_plain hR.depth (C.base _ _ ho) hd (C.lim L) (hcd.keeps C.base) (hbind [v] pm code doc rfl) hlocs (fun h₁ Fr₁ => ?_) hco hgen hk hcell
  have hdead := fresh_none s.heap
  have hoff := C.baseDead hdead
  obtain ⟨C1, S1⟩ := C.grow (h' := h₁) Fr₁.keep (Nat.le_add_right s.toks ([y].zip [v]).length)
  have C1' := C1.intoDeep Fr₁.ns
  have hR' := hR.deeper (env := envOf d.name d.scope s.heap.objs.size a code) hk rfl hoff.1
  have X1 : EnvAt (hB.deep s.heap.objs.size) (envOf d.name d.scope s.heap.objs.size a code) (Binds [y] [.r it]) τ { s with heap := h₁, toks := s.toks + ([y].zip [v]).length } := by
    refine ⟨hk, rfl, rfl, fun b hb => ?_, fun x y c hx => (by cases hx), ⟨_, Fr₁.ns, fun z cv _ hz => lookup_zip hv z cv hz⟩, fun x hx => ?_, fun x c hc => (by cases hc)⟩
    · rw [List.mem_singleton.mp hb]; exact hoff.1
    · exact absurd rfl (hcell _ (mem_of_lookup hx))
  have hkind : ∀ z q, d.scope.names.lookup z = some q → (envOf d.name d.scope s.heap.objs.size a code).kindOf z = some q := fun z q h => h
  have hyG : Binds [y] [.r it] y = some (.r it) := by simp [Binds]
  rw [hb]
  refine wpAny_execs_cons (wpAny_Assign_Name ?_ rfl)
  have L' : Gl (hB.deep s.heap.objs.size) mg mb := ⟨L.g, L.b, L.lim, L.boot⟩
  refine wpAny_Call_NameR (name_builtin L' C1' X1 (hkind _ _ hkn) hmn (v := .builtin "next") (by kernel_rfl) (by decide) ?_ (by decide))
  refine callWith_builtin rfl (evalArgs_of (t := eval (.Name y py) (envOf d.name d.scope s.heap.objs.size a code)) (ts := []) rfl ?_)
  have ev : EvL prog w (hB.deep s.heap.objs.size) (A.deeper (envOf d.name d.scope s.heap.objs.size a code)) (envOf d.name d.scope s.heap.objs.size a code) pc [.Name y py] (Binds [y] [.r it]) Hc fun xs H1 => xs = [.r it] ∧ H1 = Hc :=
    EvL.cons (Ev.name hyG (.inl (hkind _ _ hloc)) (EvL.nil ⟨rfl, rfl⟩) hdy)
  refine wpAny_mono (ev τ _ _ C1' X1) (fun us s2 ⟨cvs, H2, τ2, hu, C2, S2, e1, e2⟩ => ?_) fun _ _ e => e
  subst e1 e2
  obtain ⟨u, rfl, hu1⟩ := one_arg hu
  rw [is_r hu1]
  refine next_stop (A := A.deeper _) hR'.1 C2 hi hli hx fun h3 h4 e hs3 hl3 hm3 => ?_
  refine leaves_stop (hB := hB.deep s.heap.objs.size) (outer := l) (L := s.heap.objs.size) (PySem.Around.frames_deeper hl) hR'.2.2.2 rfl C2 hi hs3 hl3 hm3 rfl fun s5 rz => ?_
  refine ⟨e, s2, H2, τ2, rfl, S1.trans0 S2, C2.undeep, hp, ?_⟩
  exact ⟨rz.body, rz.sm, rz.os, rz.gens, rz.toks⟩

/-- `try: while True: body` / `except StopIteration: suite` -/
theorem Ex.tryLoop {body : List Stmt} {b₀ : Stmt} {suite : List Stmt} {pw pc1 pt ph pos : Pos} {kc : Nat} {Q : CF → G → H → Prop} {it : Addr} {outer : List Env} {L : Addr} (Lg : Gl hB mg mb) (hm : mg "StopIteration" = none) (hR : Room hB 0 A) (hl : A.frames = some (env :: outer)) (hf : env.frame = some L)
    (Inv : Nat → G → H → Prop) (n : Nat) (h0 : Inv n Γ Hc)
    (turn : ∀ n Γ' H', Inv (n + 1) Γ' H' → Ex prog w hB A env (execs body env) Γ' H' fun f Γ'' H'' => f = .next ∧ Inv n Γ'' H'')
    (last : ∀ Γ' H', Inv 0 Γ' H' → EvR prog w hB A env (execs body env) Γ' H' it (env :: outer) fun H'' => (∃ li k, H'' it = some (.iter li k)) ∧ ∀ A', Ex prog w hB A' env (execs (b₀ :: suite) env) Γ' (rem H'' it) Q)
    (hk : env.kindOf "StopIteration" = some .globalImplicit := by rfl) :
    Ex prog w hB A env (exec (.Try [.While (.Constant (.bool true) kc pc1) body [] pw] [.ExceptHandler (some (.Name "StopIteration" pt)) none (b₀ :: suite) ph] [] [] pos) env) Γ Hc Q := by
  intro τ s E C X
  refine wpAny_Try_except (wpAny_execs_cons (wpAny_While ?_))
  refine codeAny_whileLoop (fun n s' => ∃ Γ' H' τ', Inv n Γ' H' ∧ Cur hB H' τ' s' ∧ EnvAt hB env Γ' τ' s' ∧ Step (ownOf env) Hc H' τ τ' s s') ?_ n ⟨Γ, Hc, τ, h0, C, X, Step.refl _ _ _ _⟩
  rintro n s1 ⟨Γ1, H1, τ1, hI, C1, X1, S1⟩
  have tt : Tr prog w hB A env (isTrue (.Constant (.bool true) kc pc1) env (eval (.Constant (.bool true) kc pc1) env)) Γ1 H1 fun b H2 => b = true ∧ H2 = H1 := Tr.ofEv (Ev.bool ⟨true, rfl, rfl, rfl⟩)
  refine wpAny_mono (tt τ1 s1 _ C1 X1) (fun b s2 ⟨H2, τ2, C2, S2, e1, e2⟩ => ?_) fun _ _ e => e
  subst e1 e2
  have X2 := X1.step C1 S2
  have S12 : Step (ownOf env) Hc H2 τ τ2 s s2 := S1.transOwn (S2.wide (by simp))
  show wpAny _ _ (execs body env) _ _ s2
  cases n with
  | succ n =>
    refine wpAny_mono (turn n Γ1 H2 hI τ2 s2 _ C2 X2) (fun f s3 ⟨cf, Γ3, H3, τ3, hf, C3, X3, S3, e, q⟩ => ?_) fun _ _ e => e
    subst e
    cases f with
    | next => exact ⟨n, Nat.lt_succ_self n, Γ3, H3, τ3, q, C3, X3, S12.transOwn S3⟩
    | _ => exact hf.elim
  | zero =>
    refine wpAny_passesOwn PassesOwn.looking (wpAny_mono (last Γ1 H2 hI τ2 s2 _ C2 X2 fun e s3 s4 H3 τ3 S3 C3 p rz => ?_) (fun _ _ f => f.elim) fun _ _ e => e)
    obtain ⟨⟨li, k, hi⟩, p⟩ := p
    have X3 := X2.step C2 S3
    obtain ⟨B, t, fl, hB⟩ := id rz.body
    refine wpAny_looks_onW hl hf fl fun h5 held5 sm5 => ?_
    refine wpAny_landsW held5 fun h6 fl6 sm6 => ?_
    have rz6 := rz.later (s'' := { s4 with heap := h6 }) hB fl6 (sm5.trans sm6) rfl
    have C6 := rz6.cur C3 hi
    have X6 := X3.step C3 (rz6.step C3 hi)
    obtain ⟨ob, hob, hobc⟩ := fl6.there
    refine wpAny_handleBy_builtin (X := "StopIteration") (T := "StopIteration") (b := true) (by rw [isSubtype_type]; kernel_rfl) (by rw [show ((Manifest.find? "StopIteration").elim "type" fun x => x.metatype) = "type" from by kernel_rfl, isSubtype_type]; kernel_rfl) (by rw [isSubtype_type]; kernel_rfl)
      (name_builtin Lg C6 X6 hk hm (v := .type "StopIteration") (by kernel_rfl) (by decide) ⟨rfl, ⟨ob, hob, hobc⟩, ?_⟩ (by decide))
    show wpAny _ _ (setFlight _ _) _ _ _
    refine lands_againW fl6 fun h7 fl7 sm7 => ?_
    have rz7 := rz6.later (s'' := { s4 with heap := h7 }) hB fl7 sm7 rfl
    have C7 := rz7.cur C3 hi
    have S7 := rz7.step C3 hi
    have X7 := X3.step C3 S7
    refine wpAny_mono (p _ τ3 _ _ C7 X7) (fun f s8 q => ?_) fun _ _ e => e
    exact q.step (S12.transOwn ((S3.trans0 S7).wide (by simp)))
end
end Mine

set_option maxRecDepth 100000
set_option maxHeartbeats 1000000
namespace Mine
/-! small things -/
def Ext (Hc H' : H) : Prop := ∀ a co, Hc a = some co → H' a = some co
theorem Ext.refl (Hc : H) : Ext Hc Hc := fun _ _ h => h
theorem Ext.trans {a b c : H} (x : Ext a b) (y : Ext b c) : Ext a c := fun k co h => y k co (x k co h)
theorem Ext.off {Hc H' : H} (x : Ext Hc H') {a : Addr} (h : H' a = none) : Hc a = none := by
  cases e : Hc a with
  | none => rfl
  | some co => rw [x a co e] at h; cases h
theorem Ext.upd {Hc H' : H} (x : Ext Hc H') {a : Addr} (h : Hc a = none) (co : CO) : Ext Hc (upd H' a co) := fun b c e => by
  rw [upd_ne _ _ (by rintro rfl; rw [h] at e; cases e)]; exact x b c e
theorem Ext.new {Hc H' : H} (x : Ext Hc H') {a : Addr} (h : H' a = none) (co : CO) : Ext Hc (Mine.upd H' a co) := x.upd (x.off h) co
theorem Ext.rem {Hc H' : H} (x : Ext Hc H') {a : Addr} (h : Hc a = none) : Ext Hc (rem H' a) := fun b c e => by
  rw [rem_ne _ (by rintro rfl; rw [h] at e; cases e)]; exact x b c e
theorem upd_upd (f : H) (a : Addr) (x y : CO) : upd (upd f a x) a y = upd f a y := by
  funext b; unfold upd; split <;> rfl
def cis (ns : List Nat) : List CV := ns.map fun (n : Nat) => CV.i n
theorem cis_append (a b : List Nat) : cis (a ++ b) = cis a ++ cis b := List.map_append ..
theorem cis_isInts (ns : List Nat) : IsInts (cis ns) (ns.map Int.ofNat) := by
  unfold IsInts cis; rw [List.map_map, List.map_map]; rfl

theorem and63 (o : Nat) (h : o < 128) : Builtin.bitAnd (o : Int) 63 = ((o % 64 : Nat) : Int) := by
  have : ∀ o : Fin 128, Builtin.bitAnd (o.val : Int) 63 = ((o.val % 64 : Nat) : Int) := by decide +kernel
  exact this ⟨o, h⟩
theorem and64 (o : Nat) (h : o < 128) : Builtin.bitAnd (o : Int) 64 = if o < 64 then 0 else 64 := by
  have : ∀ o : Fin 128, Builtin.bitAnd (o.val : Int) 64 = if o.val < 64 then 0 else 64 := by decide +kernel
  exact this ⟨o, h⟩
theorem or_low (v d : Nat) (h : d < 64) : Builtin.bitOr ((v : Int) * 64) (d : Int) = ((v * 64 + d : Nat) : Int) := by
  have e : v * 64 + d = (v * 64) ||| d := by
    have := Nat.shiftLeft_add_eq_or_of_lt (b := d) (i := 6) (by omega) v
    simpa [Nat.shiftLeft_eq] using this
  rw [e]
  have h1 : ((v : Int) * 64) = ((v * 64 : Nat) : Int) := by push_cast; rfl
  rw [h1]
  generalize v * 64 = a
  unfold Builtin.bitOr Builtin.bitAnd Builtin.bitNot
  have h1 : decide (0 ≤ -(a : Int) - 1) = false := decide_eq_false (by (clear h e h1; omega))
  have h2 : decide (0 ≤ -(d : Int) - 1) = false := decide_eq_false (by omega)
  rw [h1, h2]
  have h3 : (-(-(a : Int) - 1) - 1) = (a : Int) := by (clear h e; omega)
  have h4 : (-(-(d : Int) - 1) - 1) = (d : Int) := by (clear h e h3; omega)
  simp only [Builtin.bitNot, h3, h4, Int.toNat_natCast]
  (clear h e h3 h4; omega)
theorem bits_nat {n m : Nat} (h : n < 2 ^ m) : Builtin.Int.intBits (n : Int) ≤ m := intBits_le_iff.mpr (by simpa using h)
theorem bits_int {n : Int} {m : Nat} (h : n.natAbs < 2 ^ m) : Builtin.Int.intBits n ≤ m := intBits_le_iff.mpr h

section
variable {prog : Program} {w : World} {hB : BB} {A : Around} {env : Env} {Γ : G} {Hc : H} {mg mb : Str → Option Value} {f : Nat → Addr}
theorem Tr.ofInt {e : Expr} {P : Bool → H → Prop} (h : Ev prog w hB A env (eval e env) Γ Hc fun v H1 => ∃ n, intOf v = some n ∧ P (n != 0) H1)
    (he : isTrue e env (eval e env) = (do let v ← eval e env; standAt e.pos; holding [v] (truthy v)) := by rfl) : Tr prog w hB A env (isTrue e env (eval e env)) Γ Hc P := by
  intro τ s E C X
  refine wpAny_isTrue_value (wpAny_mono (h τ s E C X) (fun v s1 ⟨cv, H1, τ1, hv, C1, S1, n, e, p⟩ => ?_) fun _ _ e => e) he
  obtain ⟨t, rfl⟩ := is_int hv e
  exact PyProof.Rows.truthy_int ⟨H1, τ1, C1, S1, p⟩

/-! the operator's defs -/
section
variable {x y : Int} {cx cy : CV} {P : CV → H → Prop}
theorem floordiv_spec (B : Base hB mg mb f) (hx : intOf cx = some x) (hy : intOf cy = some y) (h0 : y ≠ 0) (hp : Builtin.divisionGoesByPylong x y = false) (h : P (.i (x.fdiv y)) Hc) : Fn prog w hB 1 (f 5) [cx, cy] Hc P :=
  Fn.plain B.toGl (B.fn 5 (by decide)) ["a", "b"] (fun A code fr hR => Ex.one (Ex.ret (Ev.binop (Ev.name (cv := cx) (by rfl) (.inl (by rfl)) (Ev.name (cv := cy) (by rfl) (.inl (by rfl)) (Op2.divi h0 hp h hx hy))))))
    (bind2 fun _ _ _ _ _ => rfl) (by rfl)
theorem mul_spec (B : Base hB mg mb f) (hx : intOf cx = some x) (hy : intOf cy = some y) (hm : IntMulOk x y) (h : P (.i (x * y)) Hc) : Fn prog w hB 1 (f 6) [cx, cy] Hc P :=
  Fn.plain B.toGl (B.fn 6 (by decide)) ["a", "b"] (fun A code fr hR => Ex.one (Ex.ret (Ev.binop (Ev.name (cv := cx) (by rfl) (.inl (by rfl)) (Ev.name (cv := cy) (by rfl) (.inl (by rfl)) (Op2.muli hm h hx hy))))))
    (bind2 fun _ _ _ _ _ => rfl) (by rfl)
theorem neg_spec (B : Base hB mg mb f) (hx : intOf cx = some x) (h : P (.i (-x)) Hc) : Fn prog w hB 1 (f 7) [cx] Hc P :=
  Fn.plain B.toGl (B.fn 7 (by decide)) ["a"] (fun A code fr hR => Ex.one (Ex.ret (Ev.neg (Ev.name (cv := cx) (by rfl) (.inl (by rfl)) ⟨x, hx, h⟩))))
    (bind1 fun _ _ _ _ => rfl) (by rfl)
theorem rshift_spec (B : Base hB mg mb f) (hx : intOf cx = some x) (hy : intOf cy = some y) (h0 : 0 ≤ y) (h : P (.i (x.fdiv (2 ^ y.toNat))) Hc) : Fn prog w hB 1 (f 8) [cx, cy] Hc P :=
  Fn.plain B.toGl (B.fn 8 (by decide)) ["a", "b"] (fun A code fr hR => Ex.one (Ex.ret (Ev.binop (Ev.name (cv := cx) (by rfl) (.inl (by rfl)) (Ev.name (cv := cy) (by rfl) (.inl (by rfl)) (Op2.shri h0 h hx hy))))))
    (bind2 fun _ _ _ _ _ => rfl) (by rfl)
theorem sub_spec (B : Base hB mg mb f) (hx : intOf cx = some x) (hy : intOf cy = some y) (h : P (.i (x - y)) Hc) : Fn prog w hB 1 (f 9) [cx, cy] Hc P :=
  Fn.plain B.toGl (B.fn 9 (by decide)) ["a", "b"] (fun A code fr hR => Ex.one (Ex.ret (Ev.binop (Ev.name (cv := cx) (by rfl) (.inl (by rfl)) (Ev.name (cv := cy) (by rfl) (.inl (by rfl)) (Op2.subi h hx hy))))))
    (bind2 fun _ _ _ _ _ => rfl) (by rfl)
theorem xor_spec (B : Base hB mg mb f) (hx : intOf cx = some x) (hy : intOf cy = some y) (h : P (.i (Builtin.bitXor x y)) Hc) : Fn prog w hB 1 (f 10) [cx, cy] Hc P :=
  Fn.plain B.toGl (B.fn 10 (by decide)) ["a", "b"] (fun A code fr hR => Ex.one (Ex.ret (Ev.binop (Ev.name (cv := cx) (by rfl) (.inl (by rfl)) (Ev.name (cv := cy) (by rfl) (.inl (by rfl)) (Op2.xori h hx hy))))))
    (bind2 fun _ _ _ _ _ => rfl) (by rfl)
theorem setitem_spec (B : Base hB mg mb f) {l : Addr} {xs : List CV} {ck cv : CV} {k : Int} (hl : Hc l = some (.list xs)) (hk : intOf ck = some k) (h0 : 0 ≤ k) (h1 : k < 2 ^ 63) (h2 : k.toNat < xs.length) (h : P .n (upd Hc l (.list (xs.set k.toNat cv)))) :
    Fn prog w hB 1 (f 12) [.r l, ck, cv] Hc P :=
  Fn.plain B.toGl (B.fn 12 (by decide)) ["a", "b", "c"] (fun A code fr hR => Ex.one (Ex.assignSub (Ev.name (cv := cv) (by rfl) (.inl (by rfl)) (As.sub (Ev.name (cv := .r l) (by rfl) (.inl (by rfl)) (Ev.name (cv := ck) (by rfl) (.inl (by rfl)) ⟨l, xs, k, rfl, hk, hl, h0, h1, h2, h⟩))))))
    (bind3 fun _ _ _ _ _ _ => rfl) (by rfl)
end
end
end Mine

set_option maxRecDepth 100000
set_option maxHeartbeats 1000000
namespace Mine
/-! octets -/
def hiOct (n : Nat) : List Nat := if h : n = 0 then [] else hiOct (n / 64) ++ [64 + n % 64]
termination_by n
decreasing_by omega
def octs (n : Nat) : List Nat := hiOct (n / 64) ++ [n % 64]
/-- an octet, and what is to follow it -/
def Chain : Nat → List Nat → Prop
  | o, [] => o < 64
  | o, r :: rs => 64 ≤ o ∧ o < 128 ∧ Chain r rs
def rdv (v : Nat) (l : List Nat) : Nat := l.foldl (fun v o => v * 64 + o % 64) v
theorem Chain.lt : ∀ {o : Nat} {rs : List Nat}, Chain o rs → o < 128
  | _, [], h => by unfold Chain at h; omega
  | _, _ :: _, h => h.2.1

section
variable {prog : Program} {w : World} {hB : BB} {A : Around} {env : Env} {Γ : G} {Hc : H} {mg mb : Str → Option Value} {f : Nat → Addr}

theorem varint_spec (B : Base hB mg mb f) {it l : Addr} {k : Nat} {xs : List CV} {o : Nat} {rs : List Nat} {P : CV → H → Prop} (hi : Hc it = some (.iter l k)) (hl : Hc l = some (.list xs)) (hlen : xs.length ≤ 1000000)
    (hx : ∀ j, j < (o :: rs).length → xs[k + j]? = some (.i (((o :: rs).getD j 0 : Nat) : Int))) (hc : Chain o rs) (hb : (o :: rs).length ≤ 100)
    (h : P (.i ((rdv 0 (o :: rs) : Nat) : Int)) (upd Hc it (.iter l (k + (o :: rs).length)))) : Fn prog w hB 1 (f 3) [.r it] Hc P := by
  refine Fn.plain B.toGl (B.fn 3 (by decide)) ["iterator"] (fun A code fr hR => ?_) (bind1 fun _ _ _ _ => rfl) (by rfl)
  have hne : l ≠ it := by rintro rfl; rw [hi] at hl; cases hl
  have hmn : mg "next" = none := B.free _ (by decide +kernel) (by decide +kernel)
  refine Ex.cons (Ex.assign (Ev.callB (id := "next") (B.deep fr).toGl hmn (by kernel_rfl) (EvL.cons (Ev.name (cv := .r it) (by rfl) (.inl (by rfl)) (EvL.nil ?_)))))
  refine Bi.next hi hl (x := .i (o : Int)) (by simpa using hx 0 (by simp)) ?_
  refine Ex.cons (Ex.assign (Ev.binop (Ev.name (cv := .i (o : Int)) (by rfl) (.inl (by rfl)) (Ev.int (Op2.andi ?_)))))
  rw [and63 o hc.lt]
  refine Ex.cons (Ex.while (fun n Γ' H' => ∃ o' rs' v j, n = rs'.length ∧ Chain o' rs' ∧ Γ' "b" = some (.i ((o' : Nat) : Int)) ∧ Γ' "val" = some (.i ((v : Nat) : Int)) ∧ Γ' "iterator" = some (.r it) ∧ rdv v rs' = rdv 0 (o :: rs) ∧ j + rs'.length = (o :: rs).length ∧ (o :: rs).drop j = rs' ∧
      v < 64 ^ j ∧ H' = upd Hc it (.iter l (k + j))) rs.length ?_ ?_)
  · refine ⟨o, rs, o % 64, 1, rfl, hc, by rfl, by rfl, by rfl, ?_, by simp; (clear hlen hx hb hne; omega), by simp, by (clear hlen hx hb hne; omega), rfl⟩
    simp [rdv]
  · rintro n Γ' H' ⟨o', rs', v, j, rfl, hc', gb, gv, gi, hv, hj, hd, hlt, rfl⟩
    refine Tr.ofInt (Ev.binop (Ev.name gb (.inl (by rfl)) (Ev.int (Op2.andi ⟨_, rfl, ?_⟩))))
    rw [and64 o' hc'.lt]
    cases rs' with
    | nil =>
      have ho : o' < 64 := hc'
      rw [if_pos ho]
      refine (?_ : Ex _ _ _ _ _ _ _ _ _)
      refine Ex.one (Ex.ret (Ev.name gv (.inl (by rfl)) ?_))
      have e1 : j = (o :: rs).length := by simpa using hj
      have e2 : v = rdv 0 (o :: rs) := by simpa [rdv] using hv
      rw [e1, e2]
      exact h
    | cons r rs'' =>
      obtain ⟨h64, h128, hc''⟩ := hc'
      have ho : ¬ o' < 64 := by (clear hlen hx hb hne hlt hv hj; omega)
      rw [if_neg ho]
      refine (?_ : Ex _ _ _ _ _ _ _ _ _)
      have hj2 : j < 100 := by have h1 := hj; have h2 := hb; simp only [List.length_cons] at h1 h2; (clear hlen hx hne hlt hv h64 h128 ho; omega)
      have hv2 : v < 2 ^ 600 := Nat.lt_of_lt_of_le hlt (by
        have : (64 : Nat) ^ j ≤ 64 ^ 100 := Nat.pow_le_pow_right (by (clear hlen hx hb hne hlt hv hj h64 h128 ho hj2; omega)) (by (clear hlen hx hb hne hlt hv hj h64 h128 ho; omega))
        exact Nat.le_trans this (by decide +kernel))
      refine Ex.cons (Ex.aug (c0 := .i (v : Int)) gv (Ev.int (Op2.ishl (a := v) (b := 6) (by decide) ?_ ?_)))
      · have := bits_nat hv2; (clear hlen hx hb hne hlt hv hj h64 h128 ho hj2 hv2; omega)
      · refine Ex.cons (Ex.assign (Ev.callB (id := "next") (B.deep fr).toGl hmn (by kernel_rfl) (EvL.cons (Ev.name (cv := .r it) (by rw [put_ne _ _ (by decide)]; exact gi) (.inl (by rfl)) (EvL.nil ?_)))))
        have hxj : xs[k + j]? = some (.i ((r : Nat) : Int)) := by
          rw [hx j (by simp at hj ⊢; (clear hlen hx hb hne hlt hv h64 h128 ho hv2; omega))]
          have : (o :: rs)[j]? = some r := by
            have := congrArg (fun l => l[0]?) hd
            simpa using this
          simp [List.getD, this]
        refine Bi.next (l := l) (upd_self ..) (by rw [upd_ne _ _ hne]; exact hl) hxj ?_
        rw [upd_upd]
        refine Ex.one (Ex.aug (c0 := .i ((v : Int) * 2 ^ (6 : Int).toNat)) (by rw [put_ne _ _ (by decide), put_self]) (Ev.binop (Ev.name (cv := .i ((r : Nat) : Int)) (by rw [put_self]) (.inl (by rfl)) (Ev.int (Op2.andi ?_)))))
        rw [and63 r hc''.lt]
        refine Op2.ior ?_
        have e6 : ((v : Int) * 2 ^ (6 : Int).toNat) = (v : Int) * 64 := by rfl
        rw [e6, or_low v (r % 64) (Nat.mod_lt _ (by decide))]
        refine ⟨rs''.length, by simp, r, rs'', v * 64 + r % 64, j + 1, rfl, hc'', by rw [put_ne _ _ (by decide), put_self], by rw [put_self], ?_, ?_, ?_, ?_, ?_, ?_⟩
        · rw [put_ne _ _ (by decide), put_ne _ _ (by decide), put_ne _ _ (by decide)]; exact gi
        · rw [← hv]; rfl
        · simp at hj ⊢; (clear hlen hx hb hne hlt hv h64 h128 ho hj2 hv2 e6; omega)
        · rw [← List.drop_drop, hd]; rfl
        · rw [Nat.pow_succ]; have : r % 64 < 64 := Nat.mod_lt _ (by decide); (clear hlen hx hb hne hv hj h64 h128 ho hj2 hv2 e6; omega)
        · rw [Nat.add_assoc]
end
end Mine

set_option maxRecDepth 100000
set_option maxHeartbeats 1000000
namespace Mine
theorem hiOct_all : ∀ (n : Nat), ∀ o ∈ hiOct n, 64 ≤ o ∧ o < 128 := by
  intro n
  induction n using Nat.strongRecOn with
  | ind n ih =>
    intro o ho
    rw [hiOct] at ho
    split at ho
    · simp at ho
    · rcases List.mem_append.mp ho with h | h
      · exact ih (n / 64) (by (clear ih; omega)) o h
      · rw [List.mem_singleton.mp h]; (clear ih; omega)
theorem chain_of : ∀ {L : List Nat} {d : Nat}, (∀ o ∈ L, 64 ≤ o ∧ o < 128) → d < 64 → ∃ o rs, L ++ [d] = o :: rs ∧ Chain o rs
  | [], d, _, hd => ⟨d, [], rfl, hd⟩
  | a :: L, d, h, hd => by
    obtain ⟨o, rs, e, c⟩ := chain_of (L := L) (fun o ho => h o (List.mem_cons_of_mem _ ho)) hd
    refine ⟨a, o :: rs, by rw [List.cons_append, e], ?_⟩
    have := h a (List.mem_cons_self ..)
    exact ⟨this.1, this.2, c⟩
theorem octs_chain (n : Nat) : ∃ o rs, octs n = o :: rs ∧ Chain o rs := chain_of (hiOct_all _) (Nat.mod_lt _ (by decide))
theorem rdv_hi : ∀ n, rdv 0 (hiOct n) = n := by
  intro n
  induction n using Nat.strongRecOn with
  | ind n ih =>
    rw [hiOct]
    split
    · rename_i h; rw [h]; rfl
    · unfold rdv at ih ⊢
      rw [List.foldl_append, ih (n / 64) (by (clear ih; omega))]
      simp only [List.foldl_cons, List.foldl_nil]
      (clear ih; omega)
theorem rdv_octs (n : Nat) : rdv 0 (octs n) = n := by
  have := rdv_hi (n / 64)
  unfold rdv octs at *
  rw [List.foldl_append, this]
  simp only [List.foldl_cons, List.foldl_nil]
  omega
theorem hiOct_len : ∀ (k n : Nat), n < 64 ^ k → (hiOct n).length ≤ k := by
  intro k
  induction k with
  | zero => intro n h; have : n = 0 := by simpa using h
            subst this; rw [hiOct]; simp
  | succ k ih =>
    intro n h
    rw [hiOct]
    split
    · simp
    · have := ih (n / 64) (by rw [Nat.pow_succ] at h; (clear ih; omega))
      simp; (clear ih h; omega)
theorem octs_len {n : Nat} (h : n < 2 ^ 60) : (octs n).length ≤ 100 := by
  unfold octs
  have := hiOct_len 10 (n / 64) (by have : (64 : Nat) ^ 10 = 2 ^ 60 := by decide
                                    omega)
  simp; (clear h; omega)
def flat (ns : List Nat) : List Nat := ns.flatMap octs

section
variable {prog : Program} {w : World} {hB : BB} {A : Around} {env : Env} {Γ : G} {Hc : H} {mg mb : Str → Option Value} {f : Nat → Addr}

theorem varint_stop (B : Base hB mg mb f) {it l : Addr} {k : Nat} {xs : List CV} {P : H → Prop} (hi : Hc it = some (.iter l k)) (hl : Hc l = some (.list xs)) (hx : xs[k]? = none) (hp : P Hc) : FnR prog w hB 1 (f 3) [.r it] Hc it P :=
  FnR.plain B.toGl (B.fn 3 (by decide)) hi hl hx hp (B.free _ (by decide +kernel) (by decide +kernel)) (by rfl) (bind1 fun _ _ _ _ => rfl) (by rfl) (by rfl) (by rfl)
theorem get_flat (ns : List Nat) (j : Nat) (hj : j < ns.length) (i : Nat) (hi : i < (octs ns[j]).length) : (flat ns)[(flat (ns.take j)).length + i]? = some ((octs ns[j]).getD i 0) := by
  have e : ns = ns.take j ++ ns[j] :: ns.drop (j + 1) := by simp
  have e2 : flat ns = flat (ns.take j) ++ (octs ns[j] ++ flat (ns.drop (j + 1))) := by
    refine (congrArg flat e).trans ?_
    simp only [flat, List.flatMap_append, List.flatMap_cons]
  rw [e2, List.getElem?_append_right (by (clear hi; omega)), Nat.add_sub_cancel_left, List.getElem?_append_left hi]
  simp [List.getD, hi]
theorem flat_take_succ (ns : List Nat) (j : Nat) (hj : j < ns.length) : (flat (ns.take (j + 1))).length = (flat (ns.take j)).length + (octs ns[j]).length := by
  rw [List.take_add_one, List.getElem?_eq_getElem hj]
  simp only [flat, List.flatMap_append, Option.toList, List.flatMap_cons, List.flatMap_nil, List.append_nil, List.length_append]
theorem flat_take_le (ns : List Nat) (j : Nat) : (flat (ns.take j)).length ≤ (flat ns).length := by
  have e : flat ns = flat (ns.take j) ++ flat (ns.drop j) := by
    rw [flat, flat, flat, ← List.flatMap_append, List.take_append_drop]
  rw [e, List.length_append]; omega
theorem flat_pos (ns : List Nat) : ns.length ≤ (flat ns).length := by
  induction ns with
  | nil => simp [flat]
  | cons n r ih =>
    have : (flat (n :: r)).length = (octs n).length + (flat r).length := by simp [flat]
    have h2 : 0 < (octs n).length := by simp [octs]
    simp only [List.length_cons]; omega

theorem read_spec (B : Base hB mg mb f) {l : Addr} {ns : List Nat} {P : CV → H → Prop} (hl : Hc l = some (.list (cis (flat ns)))) (hlen : (flat ns).length ≤ 900000) (hns : ∀ n ∈ ns, n < 2 ^ 60)
    (h : ∀ r H', Ext Hc H' → Hc r = none → H' r = some (.list (cis ns)) → P (.r r) H') : Fn prog w hB 2 (f 16) [.r l] Hc P := by
  refine Fn.plainF B.toGl (B.fn 16 (by decide)) ["octets"] (fun A code fr hR hF => ?_) (bind1 fun _ _ _ _ => rfl) (by rfl)
  have B' := B.deep fr
  obtain ⟨outer, hF⟩ := hF
  refine Ex.cons (Ex.assign (Ev.callB (id := "iter") B'.toGl (B.free _ (by decide +kernel) (by decide +kernel)) (by kernel_rfl) (EvL.cons (Ev.name (cv := .r l) (by rfl) (.inl (by rfl)) (EvL.nil (Bi.iter hl fun it hit => ?_))))))
  refine Ex.cons (Ex.assign (Ev.list (EvL.nil ⟨by simp, fun sl hsl => ?_⟩)))
  have hit2 : it ≠ sl := by rintro rfl; rw [upd_self] at hsl; cases hsl
  have hsl0 : Hc sl = none := by rw [upd_ne _ _ (Ne.symm hit2)] at hsl; exact hsl
  obtain ⟨o3, pm3, code3, doc3, hm3, ho3, hd3, _⟩ := B'.fn 3 (by decide)
  refine Ex.one (Ex.tryLoop (it := it) (L := fr) B'.toGl (B.free _ (by decide +kernel) (by decide +kernel)) (hR.less (by decide)) hF rfl
    (fun n Γ' H' => ∃ j, j + n = ns.length ∧ Γ' "reader" = some (.r it) ∧ Γ' "steps" = some (.r sl) ∧ Ext Hc H' ∧ H' it = some (.iter l (flat (ns.take j)).length) ∧ H' sl = some (.list (cis (ns.take j)))) ns.length ?_ ?_ ?_)
  · refine ⟨0, by simp, by rfl, by rfl, ((Ext.refl Hc).upd hit _).upd hsl0 _, ?_, upd_self ..⟩
    rw [upd_ne _ _ hit2, upd_self]; rfl
  · rintro n Γ' H' ⟨j, hj, gr, gs, hE, hi, hs⟩
    have hjl : j < ns.length := by (clear hlen hns h hit2; omega)
    refine Ex.one (Ex.expr (Ev.append (Ev.name gs (.inl (by rfl)) ⟨sl, _, rfl, hs, ?_⟩)))
    obtain ⟨o, rs, eo, ch⟩ := octs_chain ns[j]
    refine Ev.callF B'.toGl hm3 ho3 hd3 hR (EvL.cons (Ev.name gr (.inl (by rfl)) (EvL.nil ?_)))
    refine varint_spec B' (o := o) (rs := rs) hi (hE _ _ hl) (by simp [cis]; (clear hns h hit2 hj; omega)) (fun i hi' => ?_) ch (by rw [← eo]; exact octs_len (hns _ (List.getElem_mem hjl))) ?_
    · rw [← eo] at hi' ⊢
      have := get_flat ns j hjl i hi'
      simp [cis, this]
    · rw [← eo, rdv_octs]
      have e1 : upd H' it (.iter l ((flat (ns.take j)).length + (octs ns[j]).length)) sl = some (.list (cis (ns.take j))) := by rw [upd_ne _ _ (Ne.symm hit2)]; exact hs
      have hjn := flat_pos ns
      refine ⟨_, e1, by simp [cis]; (clear hns h hit2; omega), rfl, j + 1, by (clear hlen hns h hit2 hjn; omega), gr, gs, ?_, ?_, ?_⟩
      · exact (hE.upd hit _).upd hsl0 _
      · rw [upd_ne _ _ hit2, upd_self, flat_take_succ _ _ hjl]
      · rw [upd_self]
        have : ns.take (j + 1) = ns.take j ++ [ns[j]] := by rw [List.take_add_one]; simp [hjl]
        rw [this, cis_append]; rfl
  · rintro Γ' H' ⟨j, hj, gr, gs, hE, hi, hs⟩
    have hjl : j = ns.length := by (clear hlen hns h hit2; omega)
    subst hjl
    rw [List.take_length] at hi hs
    refine EvR.expr (EvR.append (Ev.name gs (.inl (by rfl)) ⟨sl, _, rfl, hs, ?_⟩))
    refine EvR.callF B'.toGl hm3 ho3 hd3 hR hF (EvL.cons (Ev.name gr (.inl (by rfl)) (EvL.nil ?_)))
    refine varint_stop B' hi (hE _ _ hl) (by simp [cis]) ⟨⟨l, _, hi⟩, fun A' => ?_⟩
    refine Ex.one (Ex.ret (Ev.name gs (.inl (by rfl)) ?_))
    exact h sl _ (hE.rem hit) hsl0 (by rw [rem_ne _ (Ne.symm hit2)]; exact hs)
end
end Mine

set_option maxRecDepth 100000
set_option maxHeartbeats 1000000
namespace Mine
theorem fdivN (a b : Nat) : ((a : Int)).fdiv (b : Int) = ((a / b : Nat) : Int) := by
  rw [Int.fdiv_eq_ediv_of_nonneg _ (by omega)]; exact (Int.natCast_ediv a b).symm
theorem fmodN (a b : Nat) : ((a : Int)).fmod (b : Int) = ((a % b : Nat) : Int) := by
  rw [Int.fmod_eq_emod_of_nonneg _ (by omega)]; exact (Int.natCast_emod a b).symm
theorem pylong_nat (a : Int) {b : Nat} (h : b < 1073741824) : Builtin.divisionGoesByPylong a (b : Int) = false := PyProof.noPylong_small (by simpa using h)
def run28 (n : Nat) : Nat := if h : n % 64 = 28 then run28 (n / 64) + 1 else 0
termination_by n
decreasing_by omega
def bareN (n : Nat) : Bool := run28 n % 2 == 0
theorem bitOr_nat (a d : Nat) : Builtin.bitOr (a : Int) (d : Int) = ((a ||| d : Nat) : Int) := by
  unfold Builtin.bitOr Builtin.bitAnd Builtin.bitNot
  have h1 : decide (0 ≤ -(a : Int) - 1) = false := decide_eq_false (by omega)
  have h2 : decide (0 ≤ -(d : Int) - 1) = false := decide_eq_false (by omega)
  rw [h1, h2]
  have h3 : (-(-(a : Int) - 1) - 1) = (a : Int) := by omega
  have h4 : (-(-(d : Int) - 1) - 1) = (d : Int) := by (clear h3; omega)
  simp only [Builtin.bitNot, h3, h4, Int.toNat_natCast]
  (clear h3 h4; omega)
theorem bitXor_even {t : Nat} (h : t % 2 = 0) : Builtin.bitXor (t : Int) 1 = ((t + 1 : Nat) : Int) := by
  have e1 : (1 : Int) = ((1 : Nat) : Int) := rfl
  unfold Builtin.bitXor
  rw [e1, bitOr_nat]
  have e2 : Builtin.bitAnd (t : Int) ((1 : Nat) : Int) = ((t &&& 1 : Nat) : Int) := by
    unfold Builtin.bitAnd
    rw [decide_eq_true (show (0 : Int) ≤ t by (clear e1; omega)), decide_eq_true (show (0 : Int) ≤ (1 : Nat) by (clear h e1; omega))]
    simp
  rw [e2, Nat.and_one_is_mod, h]
  have e3 : t ||| 1 = t + 1 := by
    have := Nat.shiftLeft_add_eq_or_of_lt (b := 1) (i := 1) (by (clear h e1 e2; omega)) (t / 2)
    rw [Nat.shiftLeft_eq] at this
    have e : t / 2 * 2 ^ 1 = t := by (clear e1 e2; omega)
    rw [e] at this
    exact this.symm
  rw [e3]; simp
def pushFar (left : List Nat) (s : Nat) : List Nat :=
  match left.getLast? with
  | some t => if t % 2 = 0 ∧ t + 1 = s then left.dropLast else left ++ [s]
  | none => [s]
def farN (steps : List Nat) : Nat := ((steps.foldl pushFar []).map (· / 64)).sum
def lineN (ps : List Nat) (v : Nat) : List Nat := if h : v = 0 ∨ ¬ ps.getD v 0 < v then [] else v :: lineN ps (ps.getD v 0)
termination_by v
decreasing_by omega

section
variable {prog : Program} {w : World} {hB : BB} {A : Around} {env : Env} {Γ : G} {Hc : H} {mg mb : Str → Option Value} {f : Nat → Addr}

section
variable {ca cb : CV} {P : CV → H → Prop}
theorem Op2.modN {a : Nat} (b : Nat) (h0 : b ≠ 0) (h : P (.i ((a % b : Nat) : Int)) Hc) (ha : intOf ca = some (a : Int) := by rfl) (hb : intOf cb = some (b : Int) := by rfl) : Op2 prog w hB A (binaryOp .Mod) ca cb Hc P :=
  Op2.modi (by omega) (by rw [fmodN]; exact h) ha hb
theorem Op2.divN {a : Nat} (b : Nat) (h0 : b ≠ 0) (h1 : b < 1073741824) (h : P (.i ((a / b : Nat) : Int)) Hc) (ha : intOf ca = some (a : Int) := by rfl) (hb : intOf cb = some (b : Int) := by rfl) : Op2 prog w hB A (binaryOp .FloorDiv) ca cb Hc P :=
  Op2.divi (by (clear h1; omega)) (pylong_nat _ h1) (by rw [fdivN]; exact h) ha hb
theorem Op2.addN {a b : Nat} (h : P (.i ((a + b : Nat) : Int)) Hc) (ha : intOf ca = some (a : Int) := by rfl) (hb : intOf cb = some (b : Int) := by rfl) : Op2 prog w hB A (binaryOp .Add) ca cb Hc P :=
  Op2.addi (by exact h) ha hb
theorem Op2.mulN {a b : Nat} (h0 : a < 2 ^ 64) (h : P (.i ((a * b : Nat) : Int)) Hc) (ha : intOf ca = some (a : Int) := by rfl) (hb : intOf cb = some (b : Int) := by rfl) : Op2 prog w hB A (binaryOp .Mult) ca cb Hc P :=
  Op2.muli (IntMulOk.of_left (bits_nat h0)) (by exact h) ha hb
theorem Op2.eqN {a b : Nat} (h : P (.b (decide (a = b))) Hc) (ha : intOf ca = some (a : Int) := by rfl) (hb : intOf cb = some (b : Int) := by rfl) : Op2 prog w hB A (compareOp .Eq) ca cb Hc P :=
  Op2.eqi (by have : (((a : Int)) == (b : Int)) = decide (a = b) := by { by_cases q : a = b <;> simp [q]; omega }
              rw [this]; exact h) ha hb
theorem Op2.neN {a b : Nat} (h : P (.b (!decide (a = b))) Hc) (ha : intOf ca = some (a : Int) := by rfl) (hb : intOf cb = some (b : Int) := by rfl) : Op2 prog w hB A (compareOp .NotEq) ca cb Hc P :=
  Op2.nei (by have : (((a : Int)) != (b : Int)) = !decide (a = b) := by { by_cases q : a = b <;> simp [q]; omega }
              rw [this]; exact h) ha hb
theorem Op2.gtN {a b : Nat} (h : P (.b (decide (b < a))) Hc) (ha : intOf ca = some (a : Int) := by rfl) (hb : intOf cb = some (b : Int) := by rfl) : Op2 prog w hB A (compareOp .Gt) ca cb Hc P :=
  Op2.gti (by have : decide (((b : Int)) < (a : Int)) = decide (b < a) := by { by_cases q : b < a <;> simp [q] <;> omega }
              rw [this]; exact h) ha hb
end
theorem bare_spec (B : Base hB mg mb f) {n : Nat} {c : CV} {P : CV → H → Prop} (hc : intOf c = some (n : Int)) (h : P (.b (bareN n)) Hc) : Fn prog w hB 1 (f 15) [c] Hc P := by
  refine Fn.plain B.toGl (B.fn 15 (by decide)) ["weight"] (fun A code fr hR => ?_) (bind1 fun _ _ _ _ => rfl) (by rfl)
  refine Ex.cons (Ex.assign (Ev.int ?_))
  refine Ex.cons (Ex.while (fun k Γ' H' => H' = Hc ∧ ∃ c' r, intOf c' = some (k : Int) ∧ Γ' "weight" = some c' ∧ Γ' "run" = some (.i ((r : Nat) : Int)) ∧ r + run28 k = run28 n) n ⟨rfl, c, 0, hc, by rfl, by rfl, by simp⟩ ?_)
  rintro k Γ' H' ⟨rfl, c', r, hc', gw, gr, hr⟩
  refine Tr.compare (Ev.binop (Ev.name gw (.inl (by rfl)) (Ev.int (Op2.modN 64 (by decide) ?_ hc' rfl))))
  refine Ev.int (Op2.eqN (b := 28) ⟨_, rfl, ?_⟩)
  by_cases q : k % 64 = 28
  · rw [decide_eq_true q]
    refine (?_ : Ex _ _ _ _ _ _ _ _ _)
    rw [run28, dif_pos q] at hr
    refine Ex.cons (Ex.aug gr (Ev.int (Op2.iadd ?_)))
    refine Ex.one (Ex.assign (Ev.binop (Ev.name (cv := c') (by rw [put_ne _ _ (by decide)]; exact gw) (.inl (by rfl)) (Ev.int (Op2.divN 64 (by decide) (by decide) ?_ hc' rfl)))))
    refine ⟨k / 64, by (clear hr; omega), rfl, _, r + 1, rfl, by rw [put_self], by rw [put_ne _ _ (by decide), put_self]; rfl, by (clear q; omega)⟩
  · rw [decide_eq_false q]
    refine (?_ : Ex _ _ _ _ _ _ _ _ _)
    rw [run28, dif_neg q] at hr
    refine Ex.one (Ex.ret (Ev.compare (Ev.binop (Ev.name gr (.inl (by rfl)) (Ev.int (Op2.modN 2 (by decide) (Ev.int (Op2.eqN (b := 0) ?_))))))))
    have e3 : decide (r % 2 = 0) = bareN n := by
      unfold bareN
      rw [← hr, Nat.add_zero]
      by_cases z : r % 2 = 0 <;> simp [z]
    rw [e3]
    exact h

theorem octets_spec (B : Base hB mg mb f) {n : Nat} {c : CV} {P : CV → H → Prop} (hc : intOf c = some (n : Int)) (hn : n < 2 ^ 60) (h : ∀ r H', Ext Hc H' → Hc r = none → H' r = some (.list (cis (octs n))) → P (.r r) H') : Fn prog w hB 1 (f 14) [c] Hc P := by
  refine Fn.plain B.toGl (B.fn 14 (by decide)) ["step"] (fun A code fr hR => ?_) (bind1 fun _ _ _ _ => rfl) (by rfl)
  refine Ex.cons (Ex.assign (Ev.list (EvL.cons (Ev.binop (Ev.name (cv := c) (by rfl) (.inl (by rfl)) (Ev.int (Op2.modN 64 (by decide) ?_ hc rfl)))))))
  refine EvL.nil ⟨by simp, fun ol hol => ?_⟩
  refine Ex.cons (Ex.assign (Ev.binop (Ev.name (cv := c) (by rfl) (.inl (by rfl)) (Ev.int (Op2.divN 64 (by decide) (by decide) ?_ hc rfl)))))
  have hoct := octs_len hn
  refine Ex.cons (Ex.while (fun k Γ' H' => ∃ xs, Γ' "step" = some (.i ((k : Nat) : Int)) ∧ Γ' "octets" = some (.r ol) ∧ Ext Hc H' ∧ H' ol = some (.list (cis xs)) ∧ hiOct k ++ xs.reverse = octs n) (n / 64) ⟨[n % 64], by rfl, by rfl, (Ext.refl Hc).upd hol _, upd_self .., by simp [octs]⟩ ?_)
  rintro k Γ' H' ⟨xs, gs, go, hE, hol', hk⟩
  refine Tr.compare (Ev.name gs (.inl (by rfl)) (Ev.int (Op2.gtN (b := 0) ⟨_, rfl, ?_⟩)))
  by_cases q : k = 0
  · subst q
    refine (?_ : Ex _ _ _ _ _ _ _ _ _)
    rw [hiOct, dif_pos rfl, List.nil_append] at hk
    have hxl : xs.length ≤ 100 := by rw [← hk] at hoct; simpa using hoct
    refine Ex.one (Ex.ret (Ev.reverse (Ev.name go (.inl (by rfl)) ⟨ol, _, rfl, hol', by simp [cis]; (clear hn h hoct; omega), fun r hr => ?_⟩)))
    refine h r _ (hE.new hr _) (hE.off hr) ?_
    rw [upd_self, ← hk]
    simp [cis]
  · rw [decide_eq_true (show 0 < k by (clear hn h hoct; omega))]
    refine (?_ : Ex _ _ _ _ _ _ _ _ _)
    rw [hiOct, dif_neg q] at hk
    have hxl : xs.length ≤ 100 := by rw [← hk] at hoct; simp at hoct; (clear hn h q; omega)
    refine Ex.cons (Ex.expr (Ev.append (Ev.name go (.inl (by rfl)) ⟨ol, _, rfl, hol', ?_⟩)))
    refine Ev.binop (Ev.int (Ev.binop (Ev.name gs (.inl (by rfl)) (Ev.int (Op2.modN 64 (by decide) (Op2.addN (a := 64) ⟨_, hol', by simp [cis]; (clear hn h hoct q; omega), ?_⟩))))))
    refine Ex.one (Ex.assign (Ev.binop (Ev.name gs (.inl (by rfl)) (Ev.int (Op2.divN 64 (by decide) (by decide) ?_)))))
    refine ⟨k / 64, by (clear hn h hoct hxl; omega), xs ++ [64 + k % 64], by rw [put_self], by rw [put_ne _ _ (by decide)]; exact go, hE.upd hol _, ?_, ?_⟩
    · rw [upd_self, cis_append]; rfl
    · rw [← hk]; simp

theorem far_spec (B : Base hB mg mb f) {l : Addr} {ns : List Nat} {P : CV → H → Prop} (hl : Hc l = some (.list (cis ns))) (hlen : ns.length ≤ 100000) (h : ∀ H', Ext Hc H' → P (.i ((farN ns : Nat) : Int)) H') : Fn prog w hB 2 (f 17) [.r l] Hc P := by
  refine Fn.plain B.toGl (B.fn 17 (by decide)) ["steps"] (fun A code fr hR => ?_) (bind1 fun _ _ _ _ => rfl) (by rfl)
  have B' := B.deep fr
  obtain ⟨o10, pm10, code10, doc10, hm10, ho10, hd10, _⟩ := B'.fn 10 (by decide)
  obtain ⟨o4, pm4, code4, doc4, hm4, ho4, hd4, _⟩ := B'.fn 4 (by decide)
  obtain ⟨o8, pm8, code8, doc8, hm8, ho8, hd8, _⟩ := B'.fn 8 (by decide)
  refine Ex.cons (Ex.assign (Ev.list (EvL.nil ⟨by simp, fun ll hll => ?_⟩)))
  have hne : l ≠ ll := by rintro rfl; rw [hl] at hll; cases hll
  refine Ex.cons (Ex.for (hR.less (by decide)) (It.list (Ev.name (cv := .r l) (by rfl) (.inl (by rfl)) ⟨l, _, rfl, by rw [upd_ne _ _ hne]; exact hl, ?_⟩)))
  refine ⟨fun i Γ' H' => Γ' "left" = some (.r ll) ∧ Ext Hc H' ∧ H' ll = some (.list (cis ((ns.take i).foldl pushFar []))) ∧ ((ns.take i).foldl pushFar []).length ≤ i, ⟨by rfl, (Ext.refl Hc).upd hll _, by rw [upd_self]; rfl, by simp⟩, ?_, ?_⟩
  · rintro i xi Γ' H' hx hok ⟨gl, hE, hll', hln⟩
    have hi : i < ns.length := by
      rcases Nat.lt_or_ge i ns.length with h | h
      · exact h
      · have : (Src.list l (cis ns)).items[i]? = none := by simp [Src.items, cis, h]
        rw [this] at hx; cases hx
    have hxi : xi = .i ((ns[i] : Nat) : Int) := by
      have : (Src.list l (cis ns)).items[i]? = some (.i ((ns[i] : Nat) : Int)) := by simp [Src.items, cis, hi]
      rw [this] at hx; exact (Option.some.inj hx).symm
    subst hxi
    have hstep : (ns.take (i + 1)).foldl pushFar [] = pushFar ((ns.take i).foldl pushFar []) ns[i] := by
      rw [List.take_add_one, List.getElem?_eq_getElem hi]
      simp only [Option.toList, List.foldl_append, List.foldl_cons, List.foldl_nil]
    generalize hL : (ns.take i).foldl pushFar [] = L at hll' hln hstep
    have hlt : L.length ≤ 100000 := by (clear h hne; omega)
    have fin : ∀ H2 L2, Ext Hc H2 → H2 ll = some (.list (cis L2)) → L2 = pushFar L ns[i] → L2.length ≤ i + 1 → (Src.list l (cis ns)).ok H2 ∧ (put Γ' "step" (.i ((ns[i] : Nat) : Int))) "left" = some (.r ll) ∧ Ext Hc H2 ∧ H2 ll = some (.list (cis ((ns.take (i + 1)).foldl pushFar []))) ∧ ((ns.take (i + 1)).foldl pushFar []).length ≤ i + 1 := by
      intro H2 L2 h1 h2 h3 h4
      refine ⟨h1 _ _ hl, by rw [put_ne _ _ (by decide)]; exact gl, h1, by rw [hstep, ← h3]; exact h2, by rw [hstep, ← h3]; exact h4⟩
    have gl' : (put Γ' "step" (.i ((ns[i] : Nat) : Int))) "left" = some (.r ll) := by rw [put_ne _ _ (by decide)]; exact gl
    have gs' : (put Γ' "step" (.i ((ns[i] : Nat) : Int))) "step" = some (.i ((ns[i] : Nat) : Int)) := put_self ..
    have push : ∀ (p1 p2 p3 p4 p5 : Pos) (Q : CF → G → H → Prop) H2, (p2.endLine == p4.line) = true → Ext Hc H2 → H2 ll = some (.list (cis L)) → pushFar L ns[i] = L ++ [ns[i]] → Ex prog w (hB.deep fr) A (envOf (rec 17).name (rec 17).scope fr (f 17) code) (execs [.Expr (.Call (.Attribute (.Name "left" p1) "append" p2) [.Name "step" p3] [] p4) p5] (envOf (rec 17).name (rec 17).scope fr (f 17) code)) (put Γ' "step" (.i ((ns[i] : Nat) : Int))) H2
        (turnEnd (fun Γ'' H'' => (Src.list l (cis ns)).ok H'' ∧ Γ'' "left" = some (.r ll) ∧ Ext Hc H'' ∧ H'' ll = some (.list (cis ((ns.take (i + 1)).foldl pushFar []))) ∧ ((ns.take (i + 1)).foldl pushFar []).length ≤ i + 1) Q) := fun p1 p2 p3 p4 p5 Q H2 hline hE2 h2 e2 => by
      refine Ex.one (Ex.expr (Ev.append (Ev.name gl' (.inl (by rfl)) ⟨ll, _, rfl, h2, Ev.name gs' (.inl (by rfl)) ⟨_, h2, by simp [cis]; (clear hlen h hne hln fin; omega), ?_⟩⟩) (by rfl) hline (by rfl)))
      exact fin _ (L ++ [ns[i]]) (hE2.upd hll _) (by rw [upd_self, cis_append]; rfl) e2.symm (by simp; (clear hlen h hne hlt fin; omega))
    refine Ex.one (Ex.if (Tr.and3 (Tr.compare (Ev.name gl' (.inl (by rfl)) (Ev.list (EvL.nil ⟨by simp, fun nl hnl => ?_⟩))))))
    have hnl0 := hE.off hnl
    have hlln : ll ≠ nl := by rintro rfl; rw [hll'] at hnl; cases hnl
    refine Op2.nel (hR.less (by decide)) (by rw [upd_ne _ _ hlln]; exact hll') (upd_self ..) (cis_isInts L) (ms := []) rfl ⟨_, rfl, ?_⟩
    have hE2 : Ext Hc (upd H' nl (.list [])) := hE.upd hnl0 _
    have hl2 : (upd H' nl (.list [])) ll = some (.list (cis L)) := by rw [upd_ne _ _ hlln]; exact hll'
    cases hq : L.getLast? with
    | none =>
      have hL0 : L = [] := List.getLast?_eq_none_iff.mp hq
      subst hL0
      exact push _ _ _ _ _ _ _ rfl hE2 hl2 (by simp [pushFar])
    | some t =>
      have hLne : L ≠ [] := by rintro rfl; cases hq
      have e1 : decide (L.map Int.ofNat = []) = false := decide_eq_false (by simpa using hLne)
      rw [e1]
      refine (?_ : Tr _ _ _ _ _ _ _ _ _)
      have hlast : (cis L)[((-1 : Int) + (cis L).length).toNat]? = some (.i ((t : Nat) : Int)) := by
        have hpos : 0 < L.length := List.length_pos_iff.mpr hLne
        rw [List.getLast?_eq_getElem?] at hq
        have e : ((-1 : Int) + (cis L).length).toNat = L.length - 1 := by simp [cis]; (clear hlen h hne hln fin push hlln; omega)
        rw [e]; simp [cis, hq]
      have hpos : 0 < L.length := List.length_pos_iff.mpr hLne
      have lastEv : ∀ (P' : CV → H → Prop) (p1 p2 p3 p4 : Pos) (k1 : Nat), P' (.i ((t : Nat) : Int)) (upd H' nl (.list [])) → Ev prog w (hB.deep fr) A (envOf (rec 17).name (rec 17).scope fr (f 17) code) (eval (.Subscript (.Name "left" p1) (.UnaryOp .USub (.Constant (.int 1) k1 p2) p3) p4) (envOf (rec 17).name (rec 17).scope fr (f 17) code)) (put Γ' "step" (.i ((ns[i] : Nat) : Int))) (upd H' nl (.list [])) P' := by
        intro P' p1 p2 p3 p4 k1 hp
        refine Ev.subscript (Ev.name gl' (.inl (by rfl)) (Ev.neg (Ev.int ⟨1, rfl, ll, _, rfl, hl2, ?_⟩)))
        exact Op2.itemNeg hl2 (by decide) (by decide) (by simp [cis]; (clear hlen h hne hln fin push hlln; omega)) hlast hp rfl
      refine Tr.compare (Ev.binop (lastEv _ _ _ _ _ _ (Ev.int (Op2.modN 2 (by decide) (Ev.int (Op2.eqN (b := 0) ⟨_, rfl, ?_⟩))))))
      by_cases h2 : t % 2 = 0
      · rw [decide_eq_true h2]
        refine (?_ : Tr _ _ _ _ _ _ _ _ _)
        refine Tr.compare (Ev.callF B'.toGl hm10 ho10 hd10 hR (EvL.cons (lastEv _ _ _ _ _ _ (EvL.cons (Ev.int (EvL.nil (xor_spec B' (x := t) (y := 1) rfl rfl ?_)))))))
        rw [bitXor_even h2]
        refine Ev.name gs' (.inl (by rfl)) (Op2.eqN ⟨_, rfl, ?_⟩)
        by_cases h3 : t + 1 = ns[i]
        · rw [decide_eq_true h3]
          refine (?_ : Ex _ _ _ _ _ _ _ _ _)
          have hd : L = L.dropLast ++ [t] := by
            obtain ⟨ys, e⟩ := List.getLast?_eq_some_iff.mp hq
            rw [e]; simp
          have hcd : cis L = cis L.dropLast ++ [.i ((t : Nat) : Int)] := by
            conv => lhs; rw [hd]
            rw [cis_append]; rfl
          refine Ex.one (Ex.expr (Ev.pop (Ev.name gl' (.inl (by rfl)) ⟨ll, cis L.dropLast, .i ((t : Nat) : Int), rfl, by rw [hl2, hcd], by simp [cis]; (clear hlen h hne hln fin push hlln lastEv h2 h3; omega), ?_⟩)))
          exact fin _ L.dropLast (hE2.upd hll _) (upd_self ..) (by simp [pushFar, hq, h2, h3]) (by simp; (clear hlen h hne hlt fin push hlln hpos lastEv h2 h3; omega))
        · rw [decide_eq_false h3]
          exact push _ _ _ _ _ _ _ rfl hE2 hl2 (by simp [pushFar, hq, h3])
      · rw [decide_eq_false h2]
        exact push _ _ _ _ _ _ _ rfl hE2 hl2 (by simp [pushFar, hq, h2])
  · rintro Γ' H' ⟨gl, hE, hll', hln⟩
    have e : (ns.take (Src.list l (cis ns)).items.length) = ns := by simp [Src.items, cis]
    rw [e] at hll' hln
    have hln' : (ns.foldl pushFar []).length ≤ 100000 := by simp [Src.items, cis] at hln; (clear h hne; omega)
    unfold farN at h
    generalize hL : ns.foldl pushFar [] = L at hll' hln' h
    refine Ex.cons (Ex.assign (Ev.int ?_))
    refine Ex.cons (Ex.for (hR.less (by decide)) (It.list (Ev.name (cv := .r ll) (by rw [put_ne _ _ (by decide)]; exact gl) (.inl (by rfl)) ⟨ll, _, rfl, hll', ?_⟩)))
    refine ⟨fun i Γ' H'' => H'' = H' ∧ Γ' "far" = some (.i (((((L.take i).map (· / 64)).sum : Nat)) : Int)), ⟨rfl, by rw [put_self]; rfl⟩, ?_, ?_⟩
    · rintro i xi Γ2 H2 hx hok ⟨rfl, gf⟩
      have hi : i < L.length := by
        rcases Nat.lt_or_ge i L.length with h | h
        · exact h
        · have : (Src.list ll (cis L)).items[i]? = none := by simp [Src.items, cis, h]
          rw [this] at hx; cases hx
      have hxi : xi = .i ((L[i] : Nat) : Int) := by
        have : (Src.list ll (cis L)).items[i]? = some (.i ((L[i] : Nat) : Int)) := by simp [Src.items, cis, hi]
        rw [this] at hx; exact (Option.some.inj hx).symm
      subst hxi
      refine Ex.one (Ex.assign (Ev.callF B'.toGl hm4 ho4 hd4 hR (EvL.cons (Ev.name (by rw [put_ne _ _ (by decide)]; exact gf) (.inl (by rfl)) (EvL.cons (Ev.callF B'.toGl hm8 ho8 hd8 hR (EvL.cons (Ev.name (cv := .i ((L[i] : Nat) : Int)) (put_self ..) (.inl (by rfl)) (EvL.cons (Ev.int (EvL.nil (rshift_spec B' (x := L[i]) (y := 6) rfl rfl (by decide) ?_))))))))))))
      refine EvL.nil (add_spec B' rfl rfl ⟨hok, rfl, ?_⟩)
      rw [put_self]
      have e : (2 : Int) ^ (6 : Int).toNat = ((64 : Nat) : Int) := by decide
      rw [e, fdivN, List.take_add_one, List.getElem?_eq_getElem hi]
      simp only [Option.toList, List.map_append, List.map_cons, List.map_nil, List.sum_append, List.sum_cons, List.sum_nil, Nat.add_zero]
      rfl
    · rintro Γ2 H2 ⟨rfl, gf⟩
      have e : (L.take (Src.list ll (cis L)).items.length) = L := by simp [Src.items, cis]
      rw [e] at gf
      exact Ex.one (Ex.ret (Ev.name gf (.inl (by rfl)) (h _ hE)))

theorem line_spec (B : Base hB mg mb f) {l : Addr} {ps : List Nat} {v : Nat} {P : CV → H → Prop} (hl : Hc l = some (.list (cis ps))) (hps : ∀ u, 0 < u → u < ps.length → ps.getD u 0 < u) (hv : v < ps.length) (hlen : ps.length ≤ 1000)
    (h : ∀ r H', Ext Hc H' → Hc r = none → H' r = some (.list (cis (lineN ps v))) → P (.r r) H') : Fn prog w hB 1 (f 18) [.r l, .i (v : Int)] Hc P := by
  refine Fn.plain B.toGl (B.fn 18 (by decide)) ["parents", "v"] (fun A code fr hR => ?_) (bind2 fun _ _ _ _ _ => rfl) (by rfl)
  refine Ex.cons (Ex.assign (Ev.list (EvL.nil ⟨by simp, fun ll hll => ?_⟩)))
  have hne : l ≠ ll := by rintro rfl; rw [hl] at hll; cases hll
  refine Ex.cons (Ex.while (fun k Γ' H' => ∃ xs, k < ps.length ∧ Γ' "v" = some (.i ((k : Nat) : Int)) ∧ Γ' "parents" = some (.r l) ∧ Γ' "line" = some (.r ll) ∧ Ext Hc H' ∧ H' ll = some (.list (cis xs)) ∧ xs ++ lineN ps k = lineN ps v ∧ xs.length + k ≤ v) v ⟨[], hv, by rfl, by rfl, by rfl, (Ext.refl Hc).upd hll _, upd_self .., by simp, by simp⟩ ?_)
  rintro k Γ' H' ⟨xs, hk, gv, gp, gl, hE, hll', hx, hsz⟩
  refine Tr.compare (Ev.name gv (.inl (by rfl)) (Ev.int (Op2.neN (b := 0) ⟨_, rfl, ?_⟩)))
  by_cases q : k = 0
  · subst q
    refine (?_ : Ex _ _ _ _ _ _ _ _ _)
    rw [lineN, dif_pos (.inl rfl), List.append_nil] at hx
    exact Ex.one (Ex.ret (Ev.name gl (.inl (by rfl)) (h ll _ hE hll (by rw [← hx]; exact hll'))))
  · rw [decide_eq_false q]
    refine (?_ : Ex _ _ _ _ _ _ _ _ _)
    have hp := hps k (by (clear hps hv hlen h hne hk hsz; omega)) hk
    rw [lineN, dif_neg (by (clear hps hv hlen h hne hk hsz q; omega))] at hx
    refine Ex.cons (Ex.expr (Ev.append (Ev.name gl (.inl (by rfl)) ⟨ll, _, rfl, hll', Ev.name gv (.inl (by rfl)) ⟨_, hll', by simp [cis]; (clear hps h hne hk q; omega), ?_⟩⟩)))
    refine Ex.one (Ex.assign (Ev.subscript (Ev.name gp (.inl (by rfl)) (Ev.name gv (.inl (by rfl)) ⟨l, cis ps, rfl, by rw [upd_ne _ _ hne]; exact hE _ _ hl, ?_⟩))))
    refine Op2.item (k := k) (x := .i ((ps.getD k 0 : Nat) : Int)) (by rw [upd_ne _ _ hne]; exact hE _ _ hl) (by (clear hps hv hlen h hne hk hsz q hp; omega)) (by (clear hps hv h hne hsz q hp; omega)) (by simp [cis, List.getD, hk]) ?_ rfl
    refine ⟨ps.getD k 0, hp, xs ++ [k], by (clear hps hlen h hne hk q; omega), by rw [put_self], by rw [put_ne _ _ (by decide)]; exact gp, by rw [put_ne _ _ (by decide)]; exact gl, hE.upd hll _, by rw [upd_self, cis_append]; rfl, ?_, ?_⟩
    · rw [← hx]; simp
    · rw [List.length_append]; simp only [List.length_cons, List.length_nil]; (clear hps hv hlen h hne hk q; omega)

theorem countOf_spec (B : Base hB mg mb f) {l : Addr} {ns : List Nat} {v : Nat} {P : CV → H → Prop} (hl : Hc l = some (.list (cis ns))) (hns : ∀ n ∈ ns, n < 250) (h : P (.i ((ns.count v : Nat) : Int)) Hc) : Fn prog w hB 1 (f 11) [.r l, .i (v : Int)] Hc P := by
  refine Fn.plain B.toGl (B.fn 11 (by decide)) ["a", "b"] (fun A code fr hR => ?_) (bind2 fun _ _ _ _ _ => rfl) (by rfl)
  refine Ex.cons (Ex.assign (Ev.int ?_))
  refine Ex.cons (Ex.for (hR.less (by decide)) (It.list (Ev.name (cv := .r l) (by rfl) (.inl (by rfl)) ⟨l, _, rfl, hl, ?_⟩)))
  refine ⟨fun i Γ' H' => H' = Hc ∧ Γ' "b" = some (.i (v : Int)) ∧ Γ' "count" = some (.i (((ns.take i).count v : Nat) : Int)), ⟨rfl, by rfl, by rfl⟩, ?_, ?_⟩
  · rintro i xi Γ' H' hx hok ⟨rfl, gb, gc⟩
    have hi : i < ns.length := by
      rcases Nat.lt_or_ge i ns.length with h | h
      · exact h
      · have : (Src.list l (cis ns)).items[i]? = none := by simp [Src.items, cis, h]
        rw [this] at hx; cases hx
    have hxi : xi = .i ((ns[i] : Nat) : Int) := by
      have : (Src.list l (cis ns)).items[i]? = some (.i ((ns[i] : Nat) : Int)) := by simp [Src.items, cis, hi]
      rw [this] at hx; exact (Option.some.inj hx).symm
    subst hxi
    have hsm : smallInt ((ns[i] : Nat) : Int) = true := by
      have := hns ns[i] (List.getElem_mem hi)
      simp only [smallInt, Bool.and_eq_true, decide_eq_true_eq]
      (clear hns; omega)
    have hcount : (ns.take (i + 1)).count v = (ns.take i).count v + if ns[i] = v then 1 else 0 := by
      rw [List.take_add_one, List.getElem?_eq_getElem hi]
      simp only [Option.toList, List.count_append, List.count_cons, List.count_nil, Nat.zero_add, beq_iff_eq]
    have gi : (put Γ' "i" (.i ((ns[i] : Nat) : Int))) "i" = some (.i ((ns[i] : Nat) : Int)) := put_self ..
    have gb' : (put Γ' "i" (.i ((ns[i] : Nat) : Int))) "b" = some (.i (v : Int)) := by rw [put_ne _ _ (by decide)]; exact gb
    have gc' : (put Γ' "i" (.i ((ns[i] : Nat) : Int))) "count" = some (.i (((ns.take i).count v : Nat) : Int)) := by rw [put_ne _ _ (by decide)]; exact gc
    refine Ex.one (Ex.if (Tr.or (Tr.compare (Ev.name gi (.inl (by rfl)) (Ev.name gb' (.inl (by rfl)) (Op2.is hsm ⟨_, rfl, ?_⟩))))))
    have fin : ∀ (p1 p2 p3 p4 : Pos) (Q : CF → G → H → Prop), ns[i] = v → Ex prog w (hB.deep fr) A (envOf (rec 11).name (rec 11).scope fr (f 11) code) (execs [.AugAssign (.Name "count" p1) .Add (.Constant (.int 1) 0 p2) p3] (envOf (rec 11).name (rec 11).scope fr (f 11) code)) (put Γ' "i" (.i ((ns[i] : Nat) : Int))) H'
        (turnEnd (fun Γ'' H'' => (Src.list l (cis ns)).ok H'' ∧ H'' = H' ∧ Γ'' "b" = some (.i (v : Int)) ∧ Γ'' "count" = some (.i (((ns.take (i + 1)).count v : Nat) : Int))) Q) := by
      intro p1 p2 p3 p4 Q e
      refine Ex.one (Ex.aug gc' (Ev.int (Op2.iadd ⟨hok, rfl, by rw [put_ne _ _ (by decide)]; exact gb', ?_⟩)))
      rw [put_self, hcount, if_pos e]; rfl
    by_cases q : ns[i] = v
    · rw [decide_eq_true (show ((ns[i] : Nat) : Int) = (v : Int) by rw [q])]
      exact fin _ _ _ default _ q
    · rw [decide_eq_false (show ¬ ((ns[i] : Nat) : Int) = (v : Int) by (clear hns hcount fin; omega))]
      refine (?_ : Tr _ _ _ _ _ _ _ _ _)
      refine Tr.compare (Ev.name gi (.inl (by rfl)) (Ev.name gb' (.inl (by rfl)) (Op2.eqN ⟨_, rfl, ?_⟩)))
      rw [decide_eq_false q]
      refine (?_ : Ex _ _ _ _ _ _ _ _ _)
      refine Ex.nil ⟨hok, rfl, gb', ?_⟩
      rw [gc', hcount, if_neg q]; rfl
  · rintro Γ' H' ⟨rfl, gb, gc⟩
    have e : (ns.take (Src.list l (cis ns)).items.length) = ns := by simp [Src.items, cis]
    rw [e] at gc
    exact Ex.one (Ex.ret (Ev.name gc (.inl (by rfl)) h))
end
end Mine

set_option maxRecDepth 100000
set_option maxHeartbeats 1000000
namespace Mine
/-! steps of a generator's body -/
section
variable {M : Model} {A : Around} {R : GenEnd} {Y : Protocol} {n : Nat} {s₀ : Shared} {c : Code} {fs : List Frame} {s : Shared} {env : Env}
  {K : Flow → Sem Fin} {HH : Value → Sem Fin} {gd : Bool → Bool} {lv : List Value → List Value}
theorem seg_If {test : Expr} {body orelse : List Stmt} {pos : Pos}
    (h : wpAny M (A.over c fs) (isTrue test env (eval test env)) (fun b s' => if b = true then Seg M A R Y n s₀ c ((execs body env).wrap K HH gd lv) fs s' else Seg M A R Y n s₀ c ((execs orelse env).wrap K HH gd lv) fs s') (fun _ _ => False) s) :
    Seg M A R Y n s₀ c ((exec (.If test body orelse pos) env).wrap K HH gd lv) fs s := by
  rw [exec_If]
  show Seg M A R Y n s₀ c (.at pos fun _ => ((isTrue test env (eval test env)) >>= fun b => if b = true then execs body env else execs orelse env).wrap K HH gd lv) fs s
  refine seg_at ?_
  rw [Sem.bind_eq_wrap', Sem.wrap_wrap]
  refine seg_wrap (wpAny_mono h (fun b s' hb => ?_) fun _ _ x => x.elim)
  cases b with
  | true => exact hb
  | false => exact hb
theorem seg_For {target iter : Expr} {body orelse : List Stmt} {pos : Pos}
    (h : wpAny M (A.over c fs) (eval iter env) (fun x s₁ => wpAny M (A.over c fs) (pyIter x) (fun it s₂ => ∀ p, Seg M A R Y n s₀ (.forLoop target it body orelse env) (M.den (.forLoop target it body orelse env))
      (.ret (fun r => ((match r with | .ok f => (.pure f : Sem Flow) | .error e => .raise e).onRaise fun (x : Value) => do
        if (← field x 1) == Value.none then unsupported "frame.own-activation:exception-without-traceback"
        setFlight x env.frame).wrap K HH gd lv) none (gd false) (lv []) c p [] :: fs) s₂) (fun _ _ => False) s₁) (fun _ _ => False) s)
    (hs : ∀ x, foldedSetIterable iter env x = pure x := by intro _; rfl) :
    Seg M A R Y n s₀ c ((exec (.For target iter body orelse pos) env).wrap K HH gd lv) fs s := by
  rw [exec_For]
  simp only [hs]
  show Seg M A R Y n s₀ c (.at pos fun _ => ((eval iter env) >>= fun v => (pure v : Sem Value) >>= fun x => standAt iter.pos >>= fun _ => holding [x] (pyIter x) >>= fun it => runOwn (.forLoop target it body orelse env) env).wrap K HH gd lv) fs s
  refine seg_at ?_
  rw [Sem.bind_eq_wrap', Sem.wrap_wrap]
  refine seg_wrap (wpAny_mono h (fun x s₁ h₁ => ?_) fun _ _ x => x.elim)
  show Seg M A R Y n s₀ c (.at iter.pos fun _ => (holding [x] (pyIter x) >>= fun it => runOwn (.forLoop target it body orelse env) env).wrap K HH _ _) fs s₁
  refine seg_at ?_
  rw [Sem.bind_eq_wrap', Sem.wrap_wrap]
  refine seg_wrap (wpAny_holding (wpAny_mono h₁ (fun it s₂ h₂ => ?_) fun _ _ x => x.elim))
  exact seg_call h₂
end
section
variable {prog : Program} {w : World} {A : Around} {R : GenEnd} {Y : Protocol} {n : Nat} {s₀ : Shared} {fs : List Frame} {s : Shared} {env : Env}
abbrev turnK (target : Expr) (it : Value) (body orelse : List Stmt) (env : Env) (f : Flow) : Sem Fin := match f with
  | .next | .cont => .pure (.again (.forLoop target it body orelse env))
  | .brk => .pure (.done .next)
  | .ret v => .pure (.done (.ret v))
abbrev notedH (env : Env) (e : Value) : Sem Fin := (do noteFrame e env; theTreesLotGoes e : Sem Unit).wrap (fun _ => .raise e) .raise id id
theorem seg_forLoop {target : Expr} {it : Value} {body orelse : List Stmt}
    (h : wpAny (model prog w) (A.over (.forLoop target it body orelse env) fs) (pyNext it) (fun r s' => match r with
      | none => Seg (model prog w) A R Y n s₀ (.forLoop target it body orelse env) (.pure (.again (.block orelse env))) fs s'
      | some v => wpAny (model prog w) (A.over (.forLoop target it body orelse env) fs) (letOwnedTupleGo target it v) (fun _ s1 => wpAny (model prog w) (A.over (.forLoop target it body orelse env) fs) (assign target env v) (fun _ s2 =>
          Seg (model prog w) A R Y n s₀ (.forLoop target it body orelse env) ((execs body env).wrap (turnK target it body orelse env) (notedH env) id id) fs s2) (fun _ _ => False) s1) (fun _ _ => False) s') (fun _ _ => False) s) :
    Seg (model prog w) A R Y n s₀ (.forLoop target it body orelse env) ((model prog w).den (.forLoop target it body orelse env)) fs s := by
  show Seg _ A R Y n s₀ _ ((forTurn target it body orelse env).onRaise (fun x => do noteFrame x env; theTreesLotGoes x)) fs s
  unfold forTurn
  rw [Sem.onRaise_eq_wrap, Sem.bind_eq_wrap', Sem.wrap_wrap]
  refine seg_wrap (wpAny_standAt ?_)
  rw [Sem.bind_eq_wrap', Sem.wrap_wrap, Sem.onRaise_eq_wrap, Sem.wrap_wrap]
  refine seg_wrap (wpAny_mono h (fun r s' hr => ?_) fun _ _ x => x.elim)
  cases r with
  | none => exact hr
  | some v =>
    show Seg _ A R Y n s₀ _ (Sem.wrap _ _ _ _ (letOwnedTupleGo target it v >>= fun _ => assign target env v >>= fun _ => execs body env >>= fun f => _)) fs s'
    rw [Sem.bind_eq_wrap', Sem.wrap_wrap]
    refine seg_wrap (wpAny_mono hr (fun _ s1 h1 => ?_) fun _ _ x => x.elim)
    rw [Sem.bind_eq_wrap', Sem.wrap_wrap]
    refine seg_wrap (wpAny_mono h1 (fun _ s2 h2 => ?_) fun _ _ x => x.elim)
    rw [Sem.bind_eq_wrap', Sem.wrap_wrap]
    rw [Sem.wrap_congr (execs body env) _ _ (K' := turnK target it body orelse env) (H' := notedH env) (fun f => by cases f <;> rfl) (fun e => by
      first | exact Sem.bind_eq_wrap _ _ | (show (do noteFrame e env; theTreesLotGoes e : Sem Unit).bind (fun _ => .raise e) = _; rw [Sem.bind_eq_wrap]))]
    exact h2

/-- `next` upon a generator, which stays without a cleanup of its own -/
theorem pyNext_genQ {a : Addr} {g n : Nat} {gs : GenState} {P : Nat → Shared → Shared → Prop} {Y : Protocol} {E : Value → Shared → Prop} {Q : Option Value → Shared → Prop} (hh : A.handled = none)
    (hl : s.heap.NoLimit) (hroom : A.depth < recursionLimit)
    (hg : s.heap.IsGen a g) (hgs : s.gens[g]? = some gs)
    (hgo : gs.Goes (model prog w) A.in1 (fun n s₀ r s₁ => r = .ok (.ret .none) ∧ P n s₀ s₁) Y n (.send .none) (s.setGen g .running))
    (hY : ∀ v s₁ gs', gs'.bare = true → Y (n - 1) (s.setGen g .running) v s₁ (fun r' s'' => match n with
        | 0 => False
        | m + 1 => gs'.Goes (model prog w) A.in1 (fun n s₀ r s₁ => r = .ok (.ret .none) ∧ P n s₀ s₁) Y m r' s'') → Q (some v) (s₁.setGen g gs'))
    (hP : ∀ s₁, P n (s.setGen g .running) s₁ → ∀ h', (∀ b o, s₁.heap.get? b = some o → h'.get? b = some o) → Q none { s₁.setGen g .finished with heap := h' }) :
    wpAny (model prog w) A (pyNext (.ref a)) Q E s := by
  unfold pyNext
  refine wpAny_bind (wpAny_attempt (wpAny_callSpecial?_slot (name := Str.ofString "__next__") hg.typeIs slot_gen_next
    (wpAny_call_entry slot_gen_next hg.typeIs entry_gen_next ?_ (args_gen_next _))))
  show wpAny _ A.in1 (Builtin.Generator.genWake (.ref a) (.send .none)) _ _ s
  unfold Builtin.Generator.genWake
  refine wpAny_bind (wpAny_holding (wpAny_genNumber hg (wpAny_bind (wpAny_genState hgs ?_))))
  cases gs with
  | running => exact hgo.elim
  | finished => exact hgo.elim
  | _ =>
    refine wpAny_bind (wpAny_roomToWake hl hroom ?_)
    show wpAny _ A.in1 (.resume g (.send .none) [] _) _ _ s
    refine wpAny_resumeQ hgs hgo (fun x s₁ hx => ?_) (fun v s₁ gs' hb hv => ?_)
    · obtain ⟨rfl, hp⟩ := hx
      show wpAny _ A.in1 (newExc (.type "StopIteration") [] >>= _) _ _ _
      refine wpAny_bind ?_
      simp only [newExc, newTuple]
      refine wpAny_bind (wpAny_newObj_type ?_ (by size_fits))
      refine wpAny_bind (m := firstArgMember _ _) (wpAny_of_eq (a := Value.none) (by first | rfl | (simp only [firstArgMember]; rfl)) ?_)
      refine wpAny_newObj_type ?_ (by size_fits)
      simp only [raiseNew]
      refine wpAny_bind (wpAny_bind (wpAny_handled ?_))
      first | rw [show A.in1.handled = none from hh] | rw [hh]
      refine wpAny_throw ?_
      refine wpAny_bind (wpAny_isInstance (T := "StopIteration") (b := true) ⟨_, Heap.get?_push_size _ rfl, rfl⟩ isSubtype_stop ?_)
      exact wpAny_pure (hP s₁ hp _ fun b o hb => Heap.get?_push_of_some _ (Heap.get?_push_of_some _ hb))
    · exact wpAny_pure ⟨v, rfl, wpAny_pure (hY v s₁ gs' hb hv)⟩
end
end Mine

set_option maxRecDepth 100000
set_option maxHeartbeats 1000000
namespace Mine
def one (c : Nat) : Str := ⟨#[c]⟩
def genY (esc : Bool) : List Nat → List Str
  | [] => []
  | c :: r => if esc then (("\\" : Str) ++ one c) :: genY false r else if c = 92 then genY true r else one c :: genY false r
def endEsc (esc : Bool) : List Nat → Bool
  | [] => esc
  | c :: r => if esc then endEsc false r else endEsc (decide (c = 92)) r
def noH : H := fun _ => none
def NoI (Γ : G) : Prop := ∀ y cv, Γ y = some cv → ∀ n, cv ≠ .i n
theorem Is.retau {τ τ' : TC} {v : Value} {cv : CV} (h : ∀ n, cv ≠ .i n) (x : Is τ v cv) : Is τ' v cv := by
  cases cv with
  | i n => exact absurd rfl (h n)
  | _ => cases v <;> exact x
theorem NoI.put {Γ : G} (h : NoI Γ) (x : Str) {cv : CV} (hc : ∀ n, cv ≠ .i n) : NoI (Mine.put Γ x cv) := fun y c e => by
  by_cases q : y = x
  · subst q; rw [put_self] at e; cases e; exact hc
  · rw [put_ne _ _ q] at e; exact h y c e
def gG (esc : Bool) : G := put noG "escape" (.b esc)
theorem gG_noI (esc : Bool) : NoI (gG esc) := NoI.put (fun _ _ e => by cases e) _ (by intro n e; cases e)
section
variable {hB : BB} {env : Env} {Γ : G}
theorem EnvAt.retau {τ τ' : TC} {s : Shared} (X : EnvAt hB env Γ τ s) (h : NoI Γ) : EnvAt hB env Γ τ' s where
  fn := X.fn
  glo := X.glo
  bui := X.bui
  new := X.new
  apart := X.apart
  loc := let ⟨m, hn, hm⟩ := X.loc; ⟨m, hn, fun x cv hk hx => let ⟨v, a, b⟩ := hm x cv hk hx; ⟨v, a, b.retau (h x cv hx)⟩⟩
  cell := fun x hx => let ⟨c, v, hc, hi, hv⟩ := X.cell x hx; ⟨c, v, hc, hi, fun cv e => let ⟨w, a, b⟩ := hv cv e; ⟨w, a, b.retau (h x cv e)⟩⟩
  cells := X.cells
end
def t0 (s : Shared) : TC := ⟨fun _ => 0, s.toks⟩
/-- what a piece of the generator's body has done -/
structure GStep (own : Addr → Prop) (s s' : Shared) : Prop where
  os : s'.os = s.os
  gens : ∀ (i : Nat) (x : GenState), s.gens[i]? = some x → s'.gens[i]? = some x
  bare : AllBare s.gens → AllBare s'.gens
  keep : ∀ b o, s.heap.get? b = some o → ¬ own b → ∃ o', s'.heap.get? b = some o' ∧ Like o o'
  toks : s.toks ≤ s'.toks
theorem GStep.refl (own : Addr → Prop) (s : Shared) : GStep own s s := ⟨rfl, fun _ _ h => h, fun h => h, fun _ _ h _ => like h, Nat.le_refl _⟩
theorem GStep.trans {own : Addr → Prop} {s0 s1 s2 : Shared} (x : GStep own s0 s1) (y : GStep own s1 s2) : GStep own s0 s2 :=
  ⟨y.os.trans x.os, fun i g h => y.gens i g (x.gens i g h), fun h => y.bare (x.bare h), fun b o h hb => let ⟨o1, e1, l1⟩ := x.keep b o h hb; let ⟨o2, e2, l2⟩ := y.keep b o1 e1 hb; ⟨o2, e2, l1.trans l2⟩, Nat.le_trans x.toks y.toks⟩
theorem GStep.step {own : Addr → Prop} {own' : List Addr} {H2 : H} {τ1 τ2 : TC} {s0 s1 s2 : Shared} (x : GStep own s0 s1) (S : Step own' noH H2 τ1 τ2 s1 s2) (hτ : τ1.b = s1.toks) (ht : τ2.b ≤ s2.toks) (ho : ∀ a ∈ own', own a) : GStep own s0 s2 :=
  x.trans ⟨S.os, S.gens, S.bare, fun b o h hb => S.keep b o h rfl fun q => hb (ho b q), Nat.le_trans (by rw [← hτ]; exact S.tc.1) ht⟩
theorem GStep.ext {own : Addr → Prop} {a : Addr} {s0 s1 : Shared} {h' : Heap} (x : GStep own s0 s1) (hs : Heap.ExtBut a s1.heap h') (ha : own a) {t : Nat} (ht : s1.toks ≤ t) : GStep own s0 { s1 with heap := h', toks := t } :=
  x.trans ⟨rfl, fun _ _ h => h, fun h => h, fun b o h hb => like (hs b o (by rintro rfl; exact hb ha) h), ht⟩
/-- what the others must leave -/
def GStay (hB : BB) (stay : Addr → Prop) (s s' : Shared) : Prop := (∀ b, stay b → ∀ o, s.heap.get? b = some o → ∃ o', s'.heap.get? b = some o' ∧ Like o o') ∧ Cur hB noH (t0 s') s'
structure GInv (hB : BB) (genv : Env) (e it : Addr) (x : Str) (t : Tok) (i : Nat) (Γ : G) (s : Shared) : Prop where
  cur : Cur hB noH (t0 s) s
  env : EnvAt hB genv Γ (t0 s) s
  en : ∃ old, IsEnum s.heap e it i old
  st : s.heap.IsStrIter it "str_ascii_iterator" x t i
def genP (hB : BB) (own stay : Addr → Prop) (ys : List Str) : Protocol := fun m s0 v s' kap =>
  (∃ T p t y u, v = .ref T ∧ IsTup s'.heap T #[.int p t, .str y u] ∧ ys.reverse[m]? = some y) ∧ GStep own s0 s' ∧ Cur hB noH (t0 s') s' ∧ ∀ s'', GStay hB stay s' s'' → kap (.send .none) s''
def genR (hB : BB) (own : Addr → Prop) : GenEnd := fun n s0 r s1 => r = .ok (.ret .none) ∧ (n = 0 ∧ GStep own s0 s1 ∧ Cur hB noH (t0 s1) s1)

theorem Cur.noH' {hB : BB} {Hc : H} {τ : TC} {s : Shared} (C : Cur hB Hc τ s) : Cur hB noH (t0 s) s :=
  ⟨Nat.le_trans C.pos C.top, Nat.le_refl _, C.base, fun _ _ _ => rfl, (by intro _ _ e; cases e), C.fr⟩
theorem two_len (c : Nat) : (("\\" : Str) ++ one c).length ≤ sizeLine := by
  have : (("\\" : Str) ++ one c).length = 2 := rfl
  rw [this]; decide
theorem one_eq (c : Nat) : (one c == ("\\" : Str)) = decide (c = 92) := by
  have e : ("\\" : Str) = one 92 := by decide +kernel
  rw [e]
  by_cases q : c = 92
  · subst q; simp
  · have : one c ≠ one 92 := by intro h; apply q; simpa [one] using h
    simp [this, q]

section
variable {prog : Program} {w : World} {hB : BB} {A : Around} {genv : Env} {e it : Addr} {x : Str} {tk : Tok} {fs : List Frame} {ys : List Str}
theorem add_strs {Hc : H} {a b : Str} {P : CV → H → Prop} (ha : (a.length == 0) = false) (hb : (b.length == 0) = false) (hsz : (a ++ b).length ≤ sizeLine) (h : P (.s (a ++ b)) Hc) : Op2 prog w hB A (binaryOp .Add) (.s a) (.s b) Hc P := by
  intro τ va vb hva hvb s E C
  obtain ⟨t, rfl⟩ := is_s hva
  obtain ⟨u, rfl⟩ := is_s hvb
  refine PySem.P.add_str ?_
  rw [ha, hb, if_neg Bool.false_ne_true, if_neg Bool.false_ne_true]
  exact ⟨hsz, Post.here rs C h (Nat.le_succ _)⟩

/-- evaluate inside the generator -/
theorem gen_eval {Γ : G} {ex : Expr} {s0 s : Shared} {own : Addr → Prop} {Q : Value → Shared → Prop} {E : Value → Shared → Prop} {A' : Around} {P : CV → H → Prop} (G : GInv hB genv e it x tk i Γ s) (S : GStep own s0 s) (h : Ev prog w hB A' genv (eval ex genv) Γ noH P)
    (hq : ∀ v s' cv H' τ', Is τ' v cv → Cur hB H' τ' s' → Step [] noH H' (t0 s) τ' s s' → P cv H' → GStep own s0 s' → Q v s') : wpAny (model prog w) A' (eval ex genv) Q E s :=
  wpAny_mono (h (t0 s) s E G.cur G.env) (fun v s' ⟨cv, H', τ', a, b, c, d⟩ => hq v s' cv H' τ' a b c d (S.step c rfl b.top (by simp))) fun _ _ y => y

abbrev gEnv (L a : Addr) (cd : Value) : Env := envOf (rec 0).name (rec 0).scope L a cd
def gParts : Expr × Expr × List Stmt := match (rec 0).body with
  | [_, _, .For t i b _ _, _] => (t, i, b)
  | _ => (.Constant .none 0 default, .Constant .none 0 default, [])
abbrev gCode (e L a : Addr) (cd : Value) : Code := .forLoop gParts.1 (.ref e) gParts.2.2 [] (gEnv L a cd)
structure GenOk (hB : BB) (genv : Env) (e it : Addr) : Prop where
  hei : e ≠ it
  heo : e ∉ ownOf genv
  hio : it ∉ ownOf genv
  hBe : hB.off e
  hBi : hB.off it
structure GOwn (own stay : Addr → Prop) (L e it : Addr) : Prop where
  o1 : own L
  o2 : own e
  o3 : own it
  s1 : stay L
  s2 : stay e
  s3 : stay it
theorem GInv.at {own stay : Addr → Prop} {i : Nat} {Γ : G} {s s'' : Shared} {L a : Addr} {cd : Value} (O : GOwn own stay L e it) (hN : NoI Γ) (hX : EnvAt hB (gEnv L a cd) Γ (t0 s) s) (he : ∃ old, IsEnum s.heap e it i old) (hs : s.heap.IsStrIter it "str_ascii_iterator" x tk i) (h : GStay hB stay s s'') : GInv hB (gEnv L a cd) e it x tk i Γ s'' where
  cur := h.2
  env := by
    refine EnvAt.retau (τ := t0 s) (hX.keeps (.refl _) fun b hb o q => h.1 b ?_ o q) hN
    rw [List.mem_singleton.mp hb]
    exact O.s1
  en := by
    obtain ⟨old, q⟩ := he
    obtain ⟨o', e', l⟩ := h.1 e O.s2 _ q
    rw [l.2 (by intro _ _ z; cases z)] at e'
    exact ⟨old, e'⟩
  st := by
    obtain ⟨o, q, r⟩ := hs
    obtain ⟨o', e', l⟩ := h.1 it O.s3 _ q
    rw [l.2 (by intro _ _ z; rw [r.2] at z; cases z)] at e'
    exact ⟨o, e', r⟩

theorem GInv.step {i : Nat} {Γ : G} {s s' : Shared} {τ' : TC} (hN : NoI Γ) (g : GInv hB genv e it x tk i Γ s) (C : Cur hB noH τ' s') (S : Step [] noH noH (t0 s) τ' s s') : GInv hB genv e it x tk i Γ s' where
  cur := C.noH'
  env := (g.env.step g.cur S).retau hN
  en := let ⟨old, q⟩ := g.en; ⟨old, S.keepS e _ q (by intro _ _ z; cases z) rfl (by simp)⟩
  st := by
    obtain ⟨o, q, r⟩ := g.st
    exact ⟨o, S.keepS it _ q (by intro _ _ z; rw [r.2] at z; cases z) rfl (by simp), r⟩
theorem gen_test {L a : Addr} {cd : Value} {i : Nat} {Γ : G} {test : Expr} {b0 : Bool} {own : Addr → Prop} {s0 s : Shared} {A' : Around} {Q : Bool → Shared → Prop} {E : Value → Shared → Prop} (hN : NoI Γ) (g : GInv hB (gEnv L a cd) e it x tk i Γ s) (S : GStep own s0 s)
    (h : Tr prog w hB A' (gEnv L a cd) (isTrue test (gEnv L a cd) (eval test (gEnv L a cd))) Γ noH fun b H' => b = b0 ∧ H' = noH)
    (hq : ∀ s', GInv hB (gEnv L a cd) e it x tk i Γ s' → GStep own s0 s' → Q b0 s') : wpAny (model prog w) A' (isTrue test (gEnv L a cd) (eval test (gEnv L a cd))) Q E s := by
  refine wpAny_mono (h (t0 s) s E g.cur g.env) (fun b s' h' => ?_) fun _ _ y => y
  obtain ⟨H', τ', C', S', rfl, rfl⟩ := h'
  exact hq s' (g.step hN C' S') (S.step S' rfl C'.top (by simp))
theorem gen_assign {own stay : Addr → Prop} {L a : Addr} {cd : Value} {i : Nat} {Γ Γ2 : G} {st : Stmt} {s0 s : Shared} {A' : Around} {Q : Flow → Shared → Prop} {E : Value → Shared → Prop} (K : GenOk hB (gEnv L a cd) e it) (O : GOwn own stay L e it) (hN : NoI Γ2) (g : GInv hB (gEnv L a cd) e it x tk i Γ s) (S : GStep own s0 s)
    (h : Ex prog w hB A' (gEnv L a cd) (exec st (gEnv L a cd)) Γ noH fun f Γ' H' => f = .next ∧ Γ' = Γ2 ∧ H' = noH)
    (hq : ∀ s', GInv hB (gEnv L a cd) e it x tk i Γ2 s' → GStep own s0 s' → Q .next s') : wpAny (model prog w) A' (exec st (gEnv L a cd)) Q E s := by
  refine wpAny_mono (h (t0 s) s E g.cur g.env) (fun f s' h' => ?_) fun _ _ y => y
  obtain ⟨cf, Γ', H', τ', hf, C', X', S', rfl, rfl, rfl⟩ := h'
  cases f with
  | next =>
    refine hq s' ⟨C'.noH', X'.retau hN, ?_, ?_⟩ (S.step S' rfl C'.top (fun b hb => by rw [List.mem_singleton.mp hb]; exact O.o1))
    · obtain ⟨old, q⟩ := g.en
      exact ⟨old, S'.keepS e _ q (by intro _ _ z; cases z) rfl K.heo⟩
    · obtain ⟨o, q, r⟩ := g.st
      exact ⟨o, S'.keepS it _ q (by intro _ _ z; rw [r.2] at z; cases z) rfl K.hio, r⟩
  | _ => exact hf.elim
theorem gen_yield {own stay : Addr → Prop} {L a : Addr} {cd : Value} {i m : Nat} {Γ : G} {ex : Expr} {p1 p2 : Pos} {p : Int} {y : Str} {s0 s : Shared} {c : Code} {Kf : Flow → Sem Fin} {HH : Value → Sem Fin} (O : GOwn own stay L e it) (hfs : splitAtGen fs = none) (hfg : fs.any Frame.guarded = false) (hN : NoI Γ) (g : GInv hB (gEnv L a cd) e it x tk i Γ s) (S : GStep own s0 s)
    (h : Ev prog w hB (A.over c fs) (gEnv L a cd) (eval ex (gEnv L a cd)) Γ noH fun cv H' => ∃ z, cv = .r z ∧ H' z = some (.tup [.w p, .s y])) (hy : ys.reverse[m]? = some y)
    (hk : ∀ s'', GInv hB (gEnv L a cd) e it x tk i Γ s'' → Seg (model prog w) A (genR hB own) (genP hB own stay ys) m s'' c (Kf .next) fs s'') :
    Seg (model prog w) A (genR hB own) (genP hB own stay ys) (m + 1) s0 c ((exec (.Expr (.Yield (some ex) p1) p2) (gEnv L a cd)).wrap Kf HH id id) fs s := by
  refine seg_Expr_Yield hfs rfl hfg (wpAny_mono (h (t0 s) s _ g.cur g.env) (fun v s' h' => ?_) fun _ _ y => y)
  obtain ⟨cv, H', τ', hv, C', S', z, rfl, hz⟩ := h'
  obtain ⟨us, hT, hu⟩ := C'.hok z _ hz
  obtain ⟨u1, u2, rfl, h1, h2⟩ := two_args hu
  obtain ⟨t1, rfl⟩ := is_int h1 rfl
  obtain ⟨t2, rfl⟩ := is_s h2
  rw [is_r hv]
  have S1 := S.step S' rfl C'.top (by simp)
  have X1 : EnvAt hB (gEnv L a cd) Γ (t0 s') s' := (g.env.step g.cur S').retau hN
  have en1 : ∃ old, IsEnum s'.heap e it i old := let ⟨old, q⟩ := g.en; ⟨old, S'.keepS e _ q (by intro _ _ z; cases z) rfl (by simp)⟩
  have st1 : s'.heap.IsStrIter it "str_ascii_iterator" x tk i := by
    obtain ⟨o, q, r⟩ := g.st
    exact ⟨o, S'.keepS it _ q (by intro _ _ z; rw [r.2] at z; cases z) rfl (by simp), r⟩
  intro kap hkap
  exact ⟨⟨z, p, t1, y, t2, rfl, hT, hy⟩, S1, C'.noH', fun s'' hst => hkap .none s'' (hk s'' (GInv.at O hN X1 en1 st1 hst))⟩
theorem gen_seg {own stay : Addr → Prop} {L a : Addr} {cd : Value} (K : GenOk hB (gEnv L a cd) e it) (O : GOwn own stay L e it) (hh : ∀ C, (A.over C fs).handled = none) (hfs : splitAtGen fs = none) (hfg : fs.any Frame.guarded = false)
    (hend : ∀ s0 s, GStep own s0 s → Cur hB noH (t0 s) s → EnvAt hB (gEnv L a cd) (gG false) (t0 s) s → Seg (model prog w) A (genR hB own) (genP hB own stay ys) 0 s0 (.block [] (gEnv L a cd)) (leafOf (.ok .next)) fs s) :
    ∀ (r : List Nat) (esc : Bool) (i : Nat) (pre : List Str) (s0 s : Shared) (Γ : G), x.cps.toList.drop i = r → i ≤ x.cps.size → endEsc esc r = false → pre ++ genY esc r = ys → NoI Γ → Γ "escape" = some (.b esc) → GInv hB (gEnv L a cd) e it x tk i Γ s → GStep own s0 s →
      Seg (model prog w) A (genR hB own) (genP hB own stay ys) (genY esc r).length s0 (.forLoop gParts.1 (.ref e) gParts.2.2 [] (gEnv L a cd)) ((model prog w).den (.forLoop gParts.1 (.ref e) gParts.2.2 [] (gEnv L a cd))) fs s := by
  intro r
  induction r with
  | nil =>
    intro esc i pre s0 s Γ hr hi hE hy hN hΓ G S
    have hesc : esc = false := hE
    subst hesc
    have hsz : i = x.cps.size := by
      have := congrArg List.length hr
      simp at this; (clear hh hend; omega)
    obtain ⟨old, hen⟩ := G.en
    have st' : s.heap.IsStrIter it "str_ascii_iterator" x tk x.cps.size := hsz ▸ G.st
    refine seg_forLoop (wpAny_pyNext_enum_endD (n := x.cps.size) (St := fun i h => h.IsStrIter it "str_ascii_iterator" x tk i) (Draws.strAscii (A := (A.over (gCode e L a cd) fs).in1) (hh (gCode e L a cd)) it x tk) hen st' fun h' hs' => ?_)
    refine seg_again rfl ?_
    have C1 := G.cur.off hs' rfl K.hBi (.refl _) (tk := s.toks) (Nat.le_refl _)
    have X1 := G.env.off hs' K.hio (.refl _) s.toks
    have S1 : GStep own s0 { s with heap := h' } := S.ext hs' O.o3 (Nat.le_refl _)
    exact hend s0 _ S1 C1 (X1.weaken fun y cv q => by
      unfold gG at q
      by_cases z : y = "escape"
      · subst z; rw [put_self] at q; rw [hΓ]; exact q
      · rw [put_ne _ _ z] at q; cases q)
  | cons c r ih =>
    intro esc i pre s0 s Γ hr hi hE hy hN hΓ G S
    have hlt : i < x.cps.size := by
      rcases Nat.lt_or_ge i x.cps.size with h | h
      · exact h
      · rw [List.drop_of_length_le (by simpa using h)] at hr; cases hr
    have hci : x.cps[i]? = some c := by
      have := congrArg (fun l => l[0]?) hr
      simpa using this
    have hr' : x.cps.toList.drop (i + 1) = r := by
      have := congrArg List.tail hr
      simpa using this
    obtain ⟨old, hen⟩ := G.en
    refine seg_forLoop (wpAny_with_toks (Nat.le_refl s.toks) (wpAny_pyNext_enum_itemD (n := x.cps.size) (P := fun i v => ∃ c u, x.cps[i]? = some c ∧ v = .str ⟨#[c]⟩ u) (St := fun i h => h.IsStrIter it "str_ascii_iterator" x tk i) (Draws.strAscii (A := (A.over (gCode e L a cd) fs).in1) (hh (gCode e L a cd)) it x tk) hen G.st hlt K.hei (by simpa using K.hei) fun v h' tk' hv heo st1 ht hsz hkeep htk => ?_))
    obtain ⟨c', u, hc', rfl⟩ := hv
    rw [hci] at hc'
    cases hc'
    refine wpAny_letOwnedTupleGo_enum heo fun h2 he2 hs2 => ?_
    have hk2 : ∀ b o, b ≠ e → b ≠ it → s.heap.get? b = some o → h2.get? b = some o := fun b o h1 h2' q => hs2.extBut b o h1 (hkeep b o h1 h2' q)
    have hTe : s.heap.objs.size ≠ e := Nat.ne_of_gt (Heap.lt_size hen)
    have ht2 := hs2.extBut _ _ hTe ht
    have C2 : Cur hB noH (t0 { s with heap := h2, toks := tk' + 1 }) { s with heap := h2, toks := tk' + 1 } :=
      ⟨Nat.le_trans G.cur.pos htk, Nat.le_refl _, fun b o q => hk2 b o (by rintro rfl; rw [K.hBe.1] at q; cases q) (by rintro rfl; rw [K.hBi.1] at q; cases q) (G.cur.base b o q), fun _ _ _ => rfl, (by intro _ _ q; cases q),
        fun L hL => let ⟨o, q, d⟩ := G.cur.fr L hL; ⟨o, hk2 L o (fun z => K.hBe.2 (z ▸ hL)) (fun z => K.hBi.2 (z ▸ hL)) q, d⟩⟩
    have X2 : EnvAt hB (gEnv L a cd) Γ (t0 { s with heap := h2, toks := tk' + 1 }) { s with heap := h2, toks := tk' + 1 } :=
      EnvAt.retau (τ := t0 s) (G.env.keeps (.refl _) fun b hb o q => like (hk2 b o (fun z => K.heo (z ▸ hb)) (fun z => K.hio (z ▸ hb)) q)) hN
    have S2 : GStep own s0 { s with heap := h2, toks := tk' + 1 } :=
      S.trans ⟨rfl, fun _ _ h => h, fun h => h, fun b o q hb => like (hk2 b o (fun z => hb (z ▸ O.o2)) (fun z => hb (z ▸ O.o3)) q), htk⟩
    have hd2 := fresh_none h2
    refine wpAny_assign_Tuple (hh _) (t := s.heap.objs.size) ⟨_, ht2, rfl, _, rfl⟩ rfl rfl fun h3 hs3 => ?_
    have hs3' : Heap.ExtBut h2.objs.size h2 h3 := hs3
    have C3 := C2.off hs3' rfl (C2.baseDead hd2) (.refl _) (tk := tk' + 1) (Nat.le_refl _)
    have X3 := X2.off hs3' (notOwn X2 hd2) (.refl _) (tk' + 1)
    have S3 : GStep own s0 { s with heap := h3, toks := tk' + 1 } := S2.trans ⟨rfl, fun _ _ h => h, fun h => h, fun b o q _ => like (hs3' b o (by rintro rfl; rw [hd2] at q; cases q) q), Nat.le_refl _⟩
    have as : ∀ (p1 p2 : Pos), AsL prog w hB (A.over (.forLoop gParts.1 (.ref e) gParts.2.2 [] (gEnv L a cd)) fs) (gEnv L a cd) [fun v => PySem.assign (.Name "pos" p1) (gEnv L a cd) v, fun v => PySem.assign (.Name "ch" p2) (gEnv L a cd) v] [.w i, .s (one c)] Γ noH
        (fun Γ' H' => Γ' = put (put Γ "pos" (.w i)) "ch" (.s (one c)) ∧ H' = noH) := fun p1 p2 => AsL.cons (As.name (AsL.cons (As.name (AsL.nil ⟨rfl, rfl⟩))))
    refine wpAny_mono (as _ _ (t0 { s with heap := h2, toks := tk' + 1 }) _ _ [.int i tk', .str ⟨#[c]⟩ u] ⟨rfl, rfl, trivial⟩ C3 X3) (fun _ s4 h4 => ?_) fun _ _ y => y
    obtain ⟨Γ4, H4, τ4, C4, X4, S4, rfl, rfl⟩ := h4
    have hN4 : NoI (put (put Γ "pos" (.w i)) "ch" (.s (one c))) := (hN.put _ (by intro n q; cases q)).put _ (by intro n q; cases q)
    have G4 : GInv hB (gEnv L a cd) e it x tk (i + 1) (put (put Γ "pos" (.w i)) "ch" (.s (one c))) s4 := by
      refine ⟨C4.noH', X4.retau hN4, ⟨_, S4.keepS e _ (hs3' e _ (fun z => ?_) he2) (by intro _ _ z; cases z) rfl K.heo⟩, ?_⟩
      · have q : h2.get? e = some _ := he2
        rw [z, hd2] at q; cases q
      · obtain ⟨o, q, r'⟩ := st1.extBut hs2.extBut (Ne.symm K.hei)
        refine ⟨o, S4.keepS it _ (hs3' it _ (fun z => ?_) q) (by intro _ _ z; rw [r'.2] at z; cases z) rfl K.hio, r'⟩
        rw [z] at q; rw [hd2] at q; cases q
    have S4' : GStep own s0 s4 := S3.step S4 rfl C4.top (fun b hb => by rw [List.mem_singleton.mp hb]; exact O.o1)
    clear C4 X4 S4 S3 X3 C3 S2 X2 C2 S G
    have gE : (put (put Γ "pos" (.w i)) "ch" (.s (one c))) "escape" = some (.b esc) := by rw [put_ne _ _ (by decide), put_ne _ _ (by decide)]; exact hΓ
    have gC : (put (put Γ "pos" (.w i)) "ch" (.s (one c))) "ch" = some (.s (one c)) := put_self ..
    have gP : (put (put Γ "pos" (.w i)) "ch" (.s (one c))) "pos" = some (.w i) := by rw [put_ne _ _ (by decide), put_self]
    generalize put (put Γ "pos" (.w i)) "ch" (.s (one c)) = Γ4 at *
    have pair : ∀ (y : Str) (rest : List Str), genY esc (c :: r) = y :: rest → ys.reverse[rest.length]? = some y := by
      intro y rest e1
      rw [e1] at hy
      rw [← hy]
      simp
    have back : ∀ (esc' : Bool) (pre' : List Str) (Γ5 : G) (s0' s5 : Shared), pre' ++ genY esc' r = ys → endEsc esc' r = false → NoI Γ5 → Γ5 "escape" = some (.b esc') → GInv hB (gEnv L a cd) e it x tk (i + 1) Γ5 s5 → GStep own s0' s5 →
        Seg (model prog w) A (genR hB own) (genP hB own stay ys) (genY esc' r).length s0' (gCode e L a cd) (turnK gParts.1 (.ref e) gParts.2.2 [] (gEnv L a cd) .next) fs s5 := fun esc' pre' Γ5 s0' s5 h1 h2 h3 h4 h5 h6 =>
      seg_again rfl (ih esc' (i + 1) pre' s0' s5 Γ5 hr' (by (clear hh hend ih hi hsz hkeep htk hk2 hTe as pair; omega)) h2 h1 h3 h4 h5 h6)
    refine seg_execs_cons (seg_If (gen_test hN4 G4 S4' (Tr.ofEv (Ev.name gE (.inl (by rfl)) ⟨esc, rfl, rfl, rfl⟩)) fun s5 G5 S5 => ?_))
    cases esc with
    | true =>
      rw [if_pos rfl]
      have e1 : genY true (c :: r) = (("\\" : Str) ++ one c) :: genY false r := rfl
      refine seg_execs_cons (gen_yield (m := (genY false r).length) (p := i) (y := ("\\" : Str) ++ one c) O hfs hfg hN4 G5 S5
        (Ev.tuple (EvL.cons (Ev.name gP (.inl (by rfl)) (EvL.cons (Ev.binop (Ev.str (Ev.name gC (.inl (by rfl)) (add_strs (by rfl) (by rfl) (two_len c) (EvL.nil ⟨by simp, fun z _ => ⟨z, rfl, upd_self ..⟩⟩)))))))))
        (pair _ _ e1) fun s6 G6 => ?_)
      refine seg_execs_cons (seg_wrap (gen_assign K O (hN4.put "escape" (cv := .b false) (by intro n q; cases q)) G6 (GStep.refl _ _) (Ex.assign (Ev.bool ⟨rfl, rfl, rfl⟩)) fun s7 G7 S7 => ?_))
      exact back false (pre ++ [("\\" : Str) ++ one c]) _ _ _ (by rw [← hy, e1]; simp) hE (hN4.put _ (by intro n q; cases q)) (put_self ..) G7 S7
    | false =>
      rw [if_neg Bool.false_ne_true]
      refine seg_execs_cons (seg_If (gen_test (b0 := decide (c = 92)) hN4 G5 S5 (Tr.compare (Ev.name gC (.inl (by rfl)) (Ev.str (Op2.eqs ⟨_, rfl, one_eq c, rfl⟩)))) fun s6 G6 S6 => ?_))
      by_cases hc : c = 92
      · rw [if_pos (decide_eq_true hc)]
        have e1 : genY false (c :: r) = genY true r := by simp [genY, hc]
        have e2 : endEsc true r = false := by simpa [endEsc, hc] using hE
        rw [e1] at hy ⊢
        refine seg_execs_cons (seg_wrap (gen_assign K O (hN4.put "escape" (cv := .b true) (by intro n q; cases q)) G6 S6 (Ex.assign (Ev.bool ⟨rfl, rfl, rfl⟩)) fun s7 G7 S7 => ?_))
        exact back true pre _ _ _ hy e2 (hN4.put _ (by intro n q; cases q)) (put_self ..) G7 S7
      · have hne : ¬ (decide (c = 92) = true) := by simpa using hc
        rw [if_neg hne]
        have e1 : genY false (c :: r) = one c :: genY false r := by simp [genY, hc]
        have e2 : endEsc false r = false := by simpa [endEsc, hc] using hE
        have hpair := pair _ _ e1
        rw [e1] at hy ⊢
        refine seg_execs_cons (gen_yield (m := (genY false r).length) (p := i) (y := one c) O hfs hfg hN4 G6 S6
          (Ev.tuple (EvL.cons (Ev.name gP (.inl (by rfl)) (EvL.cons (Ev.name gC (.inl (by rfl)) (EvL.nil ⟨by simp, fun z _ => ⟨z, rfl, upd_self ..⟩⟩))))))
          hpair fun s7 G7 => ?_)
        exact back false (pre ++ [one c]) _ _ _ (by rw [← hy]; simp) e2 hN4 gE G7 (GStep.refl _ _)
end
end Mine

set_option maxRecDepth 100000
set_option maxHeartbeats 1000000
namespace Mine
section
variable {prog : Program} {w : World} {hB : BB} {A : Around} {mg mb : Str → Option Value} {f : Nat → Addr}
theorem gen_start (B : Base hB mg mb f) {L a : Addr} {cd : Value} {own stay : Addr → Prop} {x : Str} {s : Shared} (hh : A.handled = none) (hasc : x.cps.all (· < 128) = true) (hE : endEsc false x.cps.toList = false)
    (C : Cur hB noH (t0 s) s) (X : EnvAt hB (gEnv L a cd) (put noG "addr" (.s x)) (t0 s) s) (hown : ∀ b, own b ↔ (b = L ∨ s.heap.get? b = none)) (hstay : ∀ b, s.heap.get? b = none → stay b) (hstL : stay L) :
    Seg (model prog w) A (genR hB own) (genP hB own stay (genY false x.cps.toList)) (genY false x.cps.toList).length s (.func (rec 0).body (gEnv L a cd)) ((model prog w).den (.func (rec 0).body (gEnv L a cd))) [] s := by
  have hL : ∀ b ∈ ownOf (gEnv L a cd), b = L := fun b hb => List.mem_singleton.mp hb
  refine seg_func (seg_execs_cons (seg_wrap ?_))
  have st1 : ∀ (A' : Around) (p1 p2 p3 : Pos) (k1 : Nat), Ex prog w hB A' (gEnv L a cd) (exec (.Assign [.Name "pos" p1] (.Constant (.int 0) k1 p2) p3) (gEnv L a cd)) (put noG "addr" (.s x)) noH fun f Γ' H' => f = .next ∧ Γ' = put (put noG "addr" (.s x)) "pos" (.i 0) ∧ H' = noH := fun A' p1 p2 p3 k1 => Ex.assign (Ev.int ⟨rfl, rfl, rfl⟩)
  refine wpAny_mono (st1 _ _ _ _ _ (t0 s) s (fun _ _ => False) C X) (fun fl s1 h1 => ?_) fun _ _ y => y.elim
  obtain ⟨cf, Γ1, H1, τ1, hf, C1, X1, S1, rfl, rfl, rfl⟩ := h1
  cases fl with
  | brk | cont | ret => exact hf.elim
  | next =>
  have G1 : GStep own s s1 := (GStep.refl own s).step S1 rfl C1.top fun b hb => (hown b).mpr (.inl (hL b hb))
  refine seg_execs_cons (seg_wrap ?_)
  have st2 : ∀ (A' : Around) (p1 p2 p3 : Pos) (k1 : Nat), Ex prog w hB A' (gEnv L a cd) (exec (.Assign [.Name "escape" p1] (.Constant (.bool false) k1 p2) p3) (gEnv L a cd)) (put (put noG "addr" (.s x)) "pos" (.i 0)) noH fun f Γ' H' => f = .next ∧ Γ' = put (put (put noG "addr" (.s x)) "pos" (.i 0)) "escape" (.b false) ∧ H' = noH := fun A' p1 p2 p3 k1 => Ex.assign (Ev.bool ⟨rfl, rfl, rfl⟩)
  refine wpAny_mono (st2 _ _ _ _ _ ⟨τ1.θ, s1.toks⟩ s1 (fun _ _ => False) ⟨Nat.le_trans C1.pos C1.top, Nat.le_refl _, C1.base, C1.bsep, (by intro _ _ q; cases q), C1.fr⟩ (X1.keeps (τ' := ⟨τ1.θ, s1.toks⟩) ⟨C1.top, fun _ _ => rfl⟩ fun _ _ _ q => like q)) (fun fl s2 h2 => ?_) fun _ _ y => y.elim
  obtain ⟨cf, Γ2, H2, τ2, hf2, C2, X2, S2, rfl, rfl, rfl⟩ := h2
  cases fl with
  | brk | cont | ret => exact hf2.elim
  | next =>
  have G2 : GStep own s s2 := G1.step S2 rfl C2.top fun b hb => (hown b).mpr (.inl (hL b hb))
  have alive2 : ∀ b, s2.heap.get? b = none → s.heap.get? b = none := fun b q => by
    cases z : s.heap.get? b with
    | none => rfl
    | some o =>
      obtain ⟨o1, e1⟩ := S1.alive b o z
      obtain ⟨o2, e2⟩ := S2.alive b o1 e1
      rw [q] at e2; cases e2
  refine seg_execs_cons (seg_For ?_)
  have hmE : mg "enumerate" = none := B.free _ (by decide +kernel) (by decide +kernel)
  obtain ⟨m, hn, hm⟩ := X2.loc
  obtain ⟨v, hv, hc⟩ := hm "addr" (.s x) (by rfl) (by rfl)
  obtain ⟨tk, rfl⟩ := is_s hc
  refine wpAny_Call_NameR (name_builtin B.toGl C2 X2 (by rfl) hmE (v := .type "enumerate") (by kernel_rfl) (by decide) ?_ (by decide))
  refine PySem.callWith_type rfl (evalArgs_of (t := eval (.Name "addr" _) (gEnv L a cd)) (ts := []) rfl (spliced_cons (wpAny_Name (wpAny_loadName_local X2.fn (by rfl) hn hv (spliced_nil (call_enumerate_str fun h' he hs hsz hk => ?_))) (by decide))))
  refine wpAny_pyIter_enum (s := { s2 with heap := h' }) he fun p => ?_
  have hty : strIterType x = "str_ascii_iterator" := by unfold strIterType; rw [hasc]; rfl
  rw [hty] at hs
  have d1 : s2.heap.get? s2.heap.objs.size = none := fresh_none _
  have d2 : s2.heap.get? (s2.heap.objs.size + 1) = none := Heap.get?_none_of_le (Nat.le_succ _)
  have K : GenOk hB (gEnv L a cd) (s2.heap.objs.size + 1) s2.heap.objs.size := ⟨Nat.succ_ne_self _, notOwn X2 d2, notOwn X2 d1, C2.baseDead d2, C2.baseDead d1⟩
  have O : GOwn own stay L (s2.heap.objs.size + 1) s2.heap.objs.size := ⟨(hown _).mpr (.inl rfl), (hown _).mpr (.inr (alive2 _ d2)), (hown _).mpr (.inr (alive2 _ d1)), hstL, hstay _ (alive2 _ d2), hstay _ (alive2 _ d1)⟩
  have C3 := (C2.grow (h' := h') hk (Nat.le_refl s2.toks)).1
  have X3 : EnvAt hB (gEnv L a cd) (gG false) (t0 { s2 with heap := h' }) { s2 with heap := h' } := EnvAt.retau (τ := τ2) ((X2.keeps (s' := { s2 with heap := h' }) (.refl _) fun b _ o q => like (hk b o q)).weaken fun y cv q => by
      unfold gG at q
      by_cases z : y = "escape"
      · subst z; rw [put_self] at q ⊢; exact q
      · rw [put_ne _ _ z] at q; cases q) (gG_noI false)
  have G3 : GStep own s { s2 with heap := h' } := G2.trans ⟨rfl, fun _ _ h => h, fun h => h, fun b o q _ => like (hk b o q), Nat.le_refl _⟩
  refine gen_seg (e := s2.heap.objs.size + 1) (it := s2.heap.objs.size) (tk := tk) (x := x) K O (fun C => ?_) rfl rfl ?_ x.cps.toList false 0 [] s { s2 with heap := h' } (gG false) (by simp) (Nat.zero_le _) hE (by simp) (gG_noI false) (put_self ..) ⟨C3.noH', X3, ⟨.none, he⟩, hs⟩ G3
  · show A.handled = none
    exact hh
  · intro s0 s4 S4 C4 X4
    refine seg_leaf (.ok .next) ?_
    show Seg _ _ _ _ _ _ _ ((execs _ _).wrap _ _ _ _) _ _
    have tr : ∀ (A' : Around) (p1 : Pos), Tr prog w hB A' (gEnv L a cd) (isTrue (.Name "escape" p1) (gEnv L a cd) (eval (.Name "escape" p1) (gEnv L a cd))) (gG false) noH fun b H' => b = false ∧ H' = noH := fun A' p1 => Tr.ofEv (Ev.name (cv := .b false) (put_self ..) (.inl (by rfl)) ⟨false, rfl, rfl, rfl⟩)
    refine seg_execs_cons (seg_If (wpAny_mono (tr _ _ (t0 s4) s4 (fun _ _ => False) C4 X4) (fun b s5 h5 => ?_) fun _ _ y => y.elim))
    obtain ⟨H5, τ5, C5, S5, rfl, rfl⟩ := h5
    rw [if_neg Bool.false_ne_true]
    exact seg_end (.ok (.ret .none)) ⟨rfl, rfl, S4.step S5 rfl C5.top (by simp), C5.noH'⟩
end
end Mine

set_option maxRecDepth 100000
set_option maxHeartbeats 1000000
namespace Mine
theorem setGen_ne {s : Shared} {g i : Nat} {x : GenState} (h : i ≠ g) : (s.setGen g x).gens[i]? = s.gens[i]? := by
  show (s.gens.setIfInBounds g x)[i]? = _
  rw [Array.getElem?_setIfInBounds]
  simp [Ne.symm h]
theorem setGen_bare {s : Shared} {g : Nat} {x : GenState} (h : AllBare s.gens) (hx : x.bare = true) : AllBare (s.setGen g x).gens := by
  intro y hy
  obtain ⟨i, hi, rfl⟩ := Array.mem_iff_getElem.mp hy
  have e := Array.getElem?_eq_getElem hi
  by_cases q : i = g
  · subst q
    have e2 : (s.gens.setIfInBounds i x)[i]? = some (s.setGen i x).gens[i] := e
    rw [Array.getElem?_setIfInBounds] at e2
    simp at e2
    rw [← e2.2]; exact hx
  · rw [setGen_ne q] at e
    obtain ⟨hi', e'⟩ := Array.getElem?_eq_some_iff.mp e
    rw [← e']; exact h _ (Array.getElem_mem hi')
section
variable {prog : Program} {w : World} {hB : BB} {A : Around} {env : Env} {Γ : G} {Hc : H} {mg mb : Str → Option Value} {f : Nat → Addr}
theorem gen_after {own : Addr → Prop} {τ τ' : TC} {s s' s₁ : Shared} {Γ0 Γ' : G} {g : Nat} {gs' : GenState} {h' : Heap} (C : Cur hB Hc τ s) (X : EnvAt hB env Γ0 τ s) (C' : Cur hB Hc τ' s') (X' : EnvAt hB env Γ' τ' s') (S : Step (ownOf env) Hc Hc τ τ' s s')
    (S' : GStep own (s'.setGen g .running) s₁) (Cg : Cur hB noH (t0 s₁) s₁) (hg : s.gens.size ≤ g) (hown : ∀ b o, s.heap.get? b = some o → ¬ own b) (hb : gs'.bare = true) (hh' : ∀ b o, s₁.heap.get? b = some o → h'.get? b = some o) :
    Cur hB Hc τ' { s₁.setGen g gs' with heap := h' } ∧ EnvAt hB env Γ' τ' { s₁.setGen g gs' with heap := h' } ∧ Step (ownOf env) Hc Hc τ τ' s { s₁.setGen g gs' with heap := h' } := by
  have kp : ∀ b o, (∃ o0, s.heap.get? b = some o0) → s'.heap.get? b = some o → ∃ o', h'.get? b = some o' ∧ Like o o' := fun b o ⟨o0, h0⟩ h => by
    obtain ⟨o', e, l⟩ := S'.keep b o h (hown b o0 h0)
    exact ⟨o', hh' b o' e, l⟩
  have htk : s'.toks ≤ s₁.toks := S'.toks
  refine ⟨⟨C'.pos, Nat.le_trans C'.top htk, fun b o e => hh' b o (Cg.base b o e), C'.bsep, fun a co e => ?_, fun L hL => let ⟨o, e, d⟩ := Cg.fr L hL; ⟨o, hh' L o e, d⟩⟩, ?_, ⟨S.tc, S'.os.trans S.os, fun i x e => ?_, fun h => ?_, fun b o e hn ho => ?_, S.sep, fun b o e => ?_⟩⟩
  · obtain ⟨o0, h0, _⟩ := (C.hok a co e).obj
    obtain ⟨o1, h1, hd, _⟩ := (C'.hok a co e).obj
    refine (C'.hok a co e).mono (.refl _) fun o ho => ?_
    rw [h1] at ho; cases ho
    obtain ⟨o', e', l⟩ := kp a o1 ⟨o0, h0⟩ h1
    rw [l.2 hd] at e'; exact e'
  · exact X'.keeps (.refl _) fun a ha o e => kp a o (X.alive a ha) e
  · have hi : i < s.gens.size := (Array.getElem?_eq_some_iff.mp e).1
    have hne : i ≠ g := by (clear hown hh' kp htk; omega)
    show (s₁.setGen g gs').gens[i]? = some x
    rw [setGen_ne hne]
    exact S'.gens i x (by rw [setGen_ne hne]; exact S.gens i x e)
  · exact setGen_bare (S'.bare (setGen_bare (S.bare h) rfl)) hb
  · obtain ⟨o1, e1, l1⟩ := S.keep b o e hn ho
    obtain ⟨o2, e2, l2⟩ := kp b o1 ⟨o, e⟩ e1
    exact ⟨o2, e2, l1.trans l2⟩
  · obtain ⟨o1, e1⟩ := S.alive b o e
    obtain ⟨o2, e2, _⟩ := kp b o1 ⟨o, e⟩ e1
    exact ⟨o2, e2⟩

theorem letGen {elts : List Expr} {k : Nat} {pos : Pos} {ga T g : Nat} {s : Shared} {E : Value → Shared → Prop} {Q : Unit → Shared → Prop} (hg : s.heap.IsGen ga g) (h : Q () s) : wpAny (model prog w) A (letOwnedTupleGo (.Tuple elts k pos) (.ref ga) (.ref T)) Q E s := by
  obtain ⟨o, nm, qn, ho, hc, hd, _⟩ := hg
  unfold letOwnedTupleGo
  refine wpAny_bind (wpAny_load ho ?_)
  rw [hc, hd]
  show wpAny _ A (if (["enumerate", "zip", "dict_itemiterator", "dict_reverseitemiterator", "odict_iterator", "itertools.zip_longest", "itertools.pairwise"].contains "generator" && _) = true then _ else _) Q E s
  rw [if_neg (by simp)]
  exact wpAny_pure h

theorem forGen_loop (B : Base hB mg mb f) (hR : Room hB 1 A) {x : Str} {p1 p2 p3 : Pos} {k : Nat} {body : List Stmt} {Q : CF → G → H → Prop} (hasc : x.cps.all (· < 128) = true) (hE : endEsc false x.cps.toList = false) (Inv : List Str → G → Prop)
    (turn : ∀ y rest p Γ', Inv (y :: rest) Γ' → Ex prog w hB A env (execs body env) (put (put Γ' "pos" (.w p)) "ch" (.s y)) Hc (turnEnd (fun Γ'' H'' => H'' = Hc ∧ Inv rest Γ'') Q))
    (done : ∀ Γ', Inv [] Γ' → Q .next Γ' Hc) (hk2 : env.kindOf "pos" = some .local) (hk3 : env.kindOf "ch" = some .local)
    {τ τ2 : TC} {s s2 : Shared} {E : Value → Shared → Prop} {L a ga g : Addr} {cd : Value} {Γ0 : G} (C : Cur hB Hc τ s) (X : EnvAt hB env Γ0 τ s) (C2 : Cur hB Hc τ2 s2) (X2 : EnvAt hB env Γ τ2 s2) (S2 : Step (ownOf env) Hc Hc τ τ2 s s2) (h0 : Inv (genY false x.cps.toList) Γ)
    (hG : s2.heap.IsGen ga g) (hgs : s2.gens[g]? = some (.fresh (.func (rec 0).body (gEnv L a cd)))) (hg : s.gens.size ≤ g) (hL : s.heap.get? L = none) (hgaL : ga ≠ L) (hgaN : Hc ga = none) (hgaO : ga ∉ ownOf env) (XL : EnvAt hB (gEnv L a cd) (put noG "addr" (.s x)) (t0 s2) s2) :
    codeAny (model prog w) A (.forLoop (.Tuple [.Name "pos" p1, .Name "ch" p2] k p3) (.ref ga) body [] env) (fun r s' => match r with | .ok f => PostX hB env Hc τ s Q f s' | .error e => cameBackBy (model prog w) A env E e s') s2 := by
  have hown : ∀ b o, s.heap.get? b = some o → ¬ (b = L ∨ s2.heap.get? b = none) := fun b o e h => by
    rcases h with rfl | h
    · rw [hL] at e; cases e
    · obtain ⟨o', e'⟩ := S2.alive b o e; rw [h] at e'; cases e'
  have hLN : Hc L = none := C.new hL
  have hLO : L ∉ ownOf env := notOwn X hL
  obtain ⟨oga, _, _, hoga, _, hdga, _⟩ := id hG
  have hgaown : ¬ (ga = L ∨ s2.heap.get? ga = none) := fun h => by
    rcases h with h | h
    · exact hgaL h
    · rw [h] at hoga; cases hoga
  have hgo0 := gen_start (prog := prog) (w := w) (A := A.in1) B (L := L) (a := a) (cd := cd) (own := fun b => b = L ∨ s2.heap.get? b = none) (stay := fun b => Hc b = none ∧ b ∉ ownOf env) (x := x) (s := s2.setGen g .running) hR.1 hasc hE
    (let c := C2.noH'; ⟨c.pos, c.top, c.base, c.bsep, c.hok, c.fr⟩) (XL.keeps (s' := s2.setGen g .running) (.refl _) fun _ _ _ q => like q) (fun b => Iff.rfl) (fun b q => ⟨C2.new q, notOwn X2 q⟩) ⟨hLN, hLO⟩
  generalize hys : genY false x.cps.toList = ys at h0 hgo0
  refine codeAny_forLoop_any (fun n s' => ∃ ys' pre Γ' τ' gs, n = ys'.length ∧ pre ++ ys' = ys ∧ Inv ys' Γ' ∧ Cur hB Hc τ' s' ∧ EnvAt hB env Γ' τ' s' ∧ Step (ownOf env) Hc Hc τ τ' s s' ∧ s'.heap.IsGen ga g ∧ s'.gens[g]? = some gs ∧
    gs.Goes (model prog w) A.in1 (genR hB (fun b => b = L ∨ s2.heap.get? b = none)) (genP hB (fun b => b = L ∨ s2.heap.get? b = none) (fun b => Hc b = none ∧ b ∉ ownOf env) ys) ys'.length (.send .none) (s'.setGen g .running)) ?_ ys.length
    ⟨ys, [], Γ, τ2, _, rfl, rfl, h0, C2, X2, S2, hG, hgs, rfl, hgo0⟩
  rintro n s' ⟨ys', pre, Γ', τ', gs, rfl, hpre, hI, C', X', S', hG', hgs', hgo⟩
  refine pyNext_genQ hR.1 (C'.lim B.toGl) hR.depth hG' hgs' hgo (fun v s₁ gs' hb hy => ?_) fun s₁ hp h' hh' => ?_
  · obtain ⟨⟨T, p, t, y, u, rfl, hT, hyv⟩, GS, CG, hk⟩ := hy
    obtain ⟨C1, X1, S1⟩ := gen_after (h' := s₁.heap) C X C' X' S' GS CG hg hown hb (fun _ _ q => q)
    have gaK : ∀ o, s'.heap.get? ga = some o → (∀ es n, o.data ≠ .dict es n) → s₁.heap.get? ga = some o := fun o q nd => by
      obtain ⟨o', e', l⟩ := GS.keep ga o q hgaown
      rw [l.2 nd] at e'; exact e'
    have hG1 : s₁.heap.IsGen ga g := by
      obtain ⟨o, nm, qn, ho, hc, hd, hsl⟩ := hG'
      exact ⟨o, nm, qn, gaK o ho (by intro _ _ z; rw [hd] at z; cases z), hc, hd, hsl⟩
    cases ys' with
    | nil =>
      exact (hk (s₁) ⟨fun b _ o q => like q, CG⟩).elim
    | cons y0 rest =>
      have hy0 : y0 = y := by
        have e1 : ys.reverse[(y0 :: rest).length - 1]? = some y0 := by
          rw [← hpre]; simp
        rw [e1] at hyv; exact Option.some.inj hyv
      subst hy0
      show wpAny _ A (letOwnedTupleGo _ _ _) _ _ (s₁.setGen g gs')
      refine letGen (s := s₁.setGen g gs') hG1 ?_
      have hd1 := fresh_none s₁.heap
      refine wpAny_assign_Tuple (s := s₁.setGen g gs') hR.1 hT rfl rfl fun h3 hs3 => ?_
      have hs3' : Heap.ExtBut s₁.heap.objs.size s₁.heap h3 := hs3
      have C3 := C1.off (a := s₁.heap.objs.size) (h' := h3) hs3' (C1.new hd1) (C1.baseDead hd1) (.refl _) (tk := s₁.toks) C1.top
      have X3 := X1.off (a := s₁.heap.objs.size) (h' := h3) hs3' (notOwn X1 hd1) (.refl _) s₁.toks
      have S3 := S1.off (a := s₁.heap.objs.size) (h' := h3) hs3' (S1.dead hd1) (.refl _) s₁.toks
      have as : AsL prog w hB A env [fun v => PySem.assign (.Name "pos" p1) env v, fun v => PySem.assign (.Name "ch" p2) env v] [.w p, .s y0] Γ' Hc
          (fun Γ'' H' => Γ'' = put (put Γ' "pos" (.w p)) "ch" (.s y0) ∧ H' = Hc) := AsL.cons (As.name (AsL.cons (As.name (AsL.nil ⟨rfl, rfl⟩) (.inl hk3))) (.inl hk2))
      refine wpAny_mono (as τ' _ _ [.int p t, .str y0 u] ⟨rfl, rfl, trivial⟩ C3 X3) (fun _ s4 h4 => ?_) fun _ _ z => z
      obtain ⟨Γ4, H4, τ4, C4, X4, S4, rfl, rfl⟩ := h4
      refine wpAny_mono (turn y0 rest p Γ' hI τ4 s4 _ C4 X4) (fun fl s5 h5 => ?_) fun _ _ z => z
      obtain ⟨cf, Γ5, H5, τ5, hf5, C5, X5, S5, q5⟩ := h5
      have S35 := (S3.transOwn S4).transOwn S5
      have S15 : Step (ownOf env) H4 H5 τ' τ5 { s₁.setGen g gs' with heap := h3, toks := s₁.toks } s5 := S4.transOwn S5
      have again' : H5 = H4 → Inv rest Γ5 → ∃ m, m < (y0 :: rest).length ∧ ∃ ys' pre Γ' τ' gs, m = ys'.length ∧ pre ++ ys' = ys ∧ Inv ys' Γ' ∧ Cur hB H4 τ' s5 ∧ EnvAt hB env Γ' τ' s5 ∧ Step (ownOf env) H4 H4 τ τ' s s5 ∧ s5.heap.IsGen ga g ∧ s5.gens[g]? = some gs ∧
          gs.Goes (model prog w) A.in1 (genR hB (fun b => b = L ∨ s2.heap.get? b = none)) (genP hB (fun b => b = L ∨ s2.heap.get? b = none) (fun b => H4 b = none ∧ b ∉ ownOf env) ys) ys'.length (.send .none) (s5.setGen g .running) := fun eH hI' => by
        subst eH
        have keep15 : ∀ b, (H5 b = none ∧ b ∉ ownOf env) → ∀ o, s₁.heap.get? b = some o → ∃ o', s5.heap.get? b = some o' ∧ Like o o' := fun b hb o q =>
          S15.keep b o (hs3' b o (by rintro rfl; rw [hd1] at q; cases q) q) hb.1 hb.2
        refine ⟨rest.length, Nat.lt_succ_self _, rest, pre ++ [y0], Γ5, τ5, gs', rfl, by rw [← hpre]; simp, hI', C5, X5, S35, ?_, ?_, ?_⟩
        · obtain ⟨o, nm, qn, ho, hc, hd, hsl⟩ := hG1
          obtain ⟨o', e', l⟩ := keep15 ga ⟨hgaN, hgaO⟩ o ho
          rw [l.2 (by intro _ _ z; rw [hd] at z; cases z)] at e'
          exact ⟨o, nm, qn, e', hc, hd, hsl⟩
        · refine S15.gens g gs' ?_
          show (s₁.setGen g gs').gens[g]? = some gs'
          have e1 : ∃ z, s₁.gens[g]? = some z := by
            have e2 : (s'.setGen g .running).gens[g]? = some .running := setGen_self hgs'
            exact ⟨_, GS.gens g _ e2⟩
          obtain ⟨z, e1⟩ := e1
          exact setGen_self e1
        · refine hk (s5.setGen g .running) ⟨fun b hb o q => keep15 b hb o q, ?_⟩
          have c := C5.noH'
          exact ⟨c.pos, c.top, c.base, c.bsep, c.hok, c.fr⟩
      cases fl with
      | next => cases cf <;> first | exact hf5.elim | exact again' q5.1 q5.2
      | cont => cases cf <;> first | exact hf5.elim | exact again' q5.1 q5.2
      | brk => cases cf <;> first | exact hf5.elim | exact ⟨.next, Γ5, H5, τ5, trivial, C5, X5, S35, q5⟩
      | ret v => cases cf <;> first | exact hf5.elim | exact ⟨_, Γ5, H5, τ5, hf5, C5, X5, S35, q5⟩
  · obtain ⟨hn, GS, CG⟩ := hp
    have hnil : ys' = [] := List.length_eq_zero_iff.mp hn
    subst hnil
    obtain ⟨C1, X1, S1⟩ := gen_after (gs' := .finished) C X C' X' S' GS CG hg hown rfl hh'
    exact wpAny_execs_nil ⟨.next, Γ', Hc, τ', trivial, C1, X1, S1, done Γ' hI⟩

/-- `for pos, ch in _iter_escaped_chars(addr): body` -/
theorem Ex.forGen (B : Base hB mg mb f) (hR : Room hB 1 A) {x : Str} {p1 p2 p3 pn pa pc pos : Pos} {k : Nat} {body : List Stmt} {Q : CF → G → H → Prop} (hasc : x.cps.all (· < 128) = true) (hE : endEsc false x.cps.toList = false) (ha : Γ "addr" = some (.s x)) (Inv : List Str → G → Prop) (h0 : Inv (genY false x.cps.toList) Γ)
    (turn : ∀ y rest p Γ', Inv (y :: rest) Γ' → Ex prog w hB A env (execs body env) (put (put Γ' "pos" (.w p)) "ch" (.s y)) Hc (turnEnd (fun Γ'' H'' => H'' = Hc ∧ Inv rest Γ'') Q))
    (done : ∀ Γ', Inv [] Γ' → Q .next Γ' Hc) (hk1 : env.kindOf "addr" = some .local) (hkp : env.kindOf "pos" = some .local) (hk3 : env.kindOf "ch" = some .local) (hk4 : env.kindOf "_iter_escaped_chars" = some .globalImplicit)
    (hst : starEach [.Name "addr" pa] env = [(false, eval (.Name "addr" pa) env)] := by rfl) :
    Ex prog w hB A env (exec (.For (.Tuple [.Name "pos" p1, .Name "ch" p2] k p3) (.Call (.Name "_iter_escaped_chars" pn) [.Name "addr" pa] [] pc) body [] pos) env) Γ Hc Q := by
  intro τ s E C X
  obtain ⟨o0, pm, code, doc, hm0, ho0, hd0, hcd0⟩ := B.fn 0 (by decide)
  refine wpAny_For ?_ (fun _ => rfl)
  refine wpAny_Call_NameR (name_global B.toGl C X hk4 hm0 ?_ (by decide))
  refine callWith_function (o := o0) (fd := docDef (rec 0).name (rec 0).params (rec 0).body (rec 0).scope pm code doc) (evalArgs_of (t := eval (.Name "addr" pa) env) (ts := []) hst ?_)
  have ev : EvL prog w hB A env pc [.Name "addr" pa] Γ Hc fun xs H1 => xs = [.s x] ∧ H1 = Hc := EvL.cons (Ev.name ha (.inl hk1) (EvL.nil ⟨rfl, rfl⟩)) hst
  refine wpAny_mono (ev τ s _ C X) (fun us s1 h1 => ?_) fun _ _ y => y
  obtain ⟨cvs, H1, τ1, hu, C1, S1, rfl, rfl⟩ := h1
  obtain ⟨u, rfl, hu1⟩ := one_arg hu
  obtain ⟨tk, rfl⟩ := is_s hu1
  have X1 := X.step C S1
  refine ⟨⟨C1.base _ _ ho0, hd0⟩, wpAny_call (codeAny_call_generator hR.depth (C1.base _ _ ho0) hd0 rfl rfl rfl (hcd0.keeps C1.base) ?_)⟩
  have hbind : bindArgs (docDef (rec 0).name (rec 0).params (rec 0).body (rec 0).scope pm code doc) ⟨[.str x tk], []⟩ = pure [(("addr" : Str), Value.str x tk)] := rfl
  refine wpAny_of_eq hbind (wpAny_newFunctionEnv (show ∀ x ∈ (rec 0).scope.names, x.2 ≠ .cell by decide) (by intro z hz; rw [List.mem_singleton.mp hz]; rfl) (fun h₁ hns hsb => ⟨(C1.lim B.toGl).fresh _ hsb, ?_⟩) rfl)
  have hdead1 := fresh_none s1.heap
  have hkL : ∀ b o, s1.heap.get? b = some o → h₁.get? b = some o := fun b o e => hsb.extBut b o (by rintro rfl; rw [hdead1] at e; cases e) (Heap.get?_push_of_some _ e)
  have hdead2 := fresh_none h₁
  obtain ⟨oL, esL, epL, hoL, hdL, _⟩ := id hns
  have hLlt := Heap.lt_size hoL
  refine wpAny_pyIter_gen (g := s1.gens.size) ⟨_, _, _, Heap.get?_push_size _ rfl, rfl, rfl, rfl⟩ ?_
  have key : ∀ (gobj : Obj) (gs : Array GenState) (tk' : Nat), s1.toks ≤ tk' → (h₁.push gobj).IsGen h₁.objs.size s1.gens.size → gs = s1.gens.push (.fresh (.func (rec 0).body (gEnv s1.heap.objs.size (f 0) code))) →
      codeAny (model prog w) A (.forLoop (.Tuple [.Name "pos" p1, .Name "ch" p2] k p3) (.ref h₁.objs.size) body [] env) (fun r s' => match r with | .ok f => PostX hB env H1 τ s Q f s' | .error e => cameBackBy (model prog w) A env E e s')
        { s1 with heap := h₁.push gobj, gens := gs, toks := tk' } := by
    rintro gobj gs tk' htk hG rfl
    have hk2 : ∀ b o, s1.heap.get? b = some o → (h₁.push gobj).get? b = some o := fun b o e => Heap.get?_push_of_some _ (hkL b o e)
    have C2 : Cur hB H1 τ1 { s1 with heap := h₁.push gobj, gens := s1.gens.push (.fresh (.func (rec 0).body (gEnv s1.heap.objs.size (f 0) code))), toks := tk' } := by
      have c := (C1.grow hk2 htk).1
      exact ⟨c.pos, c.top, c.base, c.bsep, c.hok, c.fr⟩
    have X2 : EnvAt hB env Γ τ1 { s1 with heap := h₁.push gobj, gens := s1.gens.push (.fresh (.func (rec 0).body (gEnv s1.heap.objs.size (f 0) code))), toks := tk' } := X1.keeps (.refl _) fun b _ o q => like (hk2 b o q)
    have S2 : Step (ownOf env) H1 H1 τ τ1 s { s1 with heap := h₁.push gobj, gens := s1.gens.push (.fresh (.func (rec 0).body (gEnv s1.heap.objs.size (f 0) code))), toks := tk' } := by
      refine (S1.trans0 (own' := ownOf env) ⟨.refl _, rfl, fun i z e => ?_, fun h => AllBare.push h rfl, fun b o q _ _ => like (hk2 b o q), fun _ _ _ h => h, fun b o q => ⟨o, hk2 b o q⟩⟩)
      show (s1.gens.push _)[i]? = some z
      rw [Array.getElem?_push_lt (Array.getElem?_eq_some_iff.mp e).1]
      exact (Array.getElem?_eq_getElem (Array.getElem?_eq_some_iff.mp e).1).symm.trans e
    have hLd : s.heap.get? s1.heap.objs.size = none := S1.dead hdead1
    have hgad : s1.heap.get? h₁.objs.size = none := by
      cases q : s1.heap.get? h₁.objs.size with
      | none => rfl
      | some o => rw [hkL _ o q] at hdead2; cases hdead2
    refine forGen_loop B hR hasc hE Inv turn done hkp hk3 (L := s1.heap.objs.size) (a := f 0) (g := s1.gens.size) (cd := code) C X C2 X2 S2 h0 hG ?_ ?_ hLd (by rintro q; rw [q] at hdead2; rw [hoL] at hdead2; cases hdead2) (C1.new hgad) (notOwn X1 hgad) ?_
    · show (s1.gens.push _)[s1.gens.size]? = _
      simp
    · rcases Nat.lt_or_ge s1.gens.size s.gens.size with h | h
      · have := S1.gens s1.gens.size _ (Array.getElem?_eq_getElem h)
        rw [Array.getElem?_eq_none (Nat.le_refl _)] at this; cases this
      · exact h
    · have hnew : ∀ b ∈ ownOf (gEnv s1.heap.objs.size (f 0) code), b = s1.heap.objs.size := fun b hb => List.mem_singleton.mp hb
      refine ⟨rfl, rfl, rfl, fun b hb => by rw [hnew b hb]; exact (C1.baseDead hdead1).1, fun y z c hy => (by cases hy), ⟨_, ns_like (fun o q => like (Heap.get?_push_of_some _ q)) hns, fun y cv hk' hy => ?_⟩, fun y hy => absurd rfl ((show ∀ z ∈ (rec 0).scope.names, z.2 ≠ .cell by decide) _ (mem_of_lookup hy)), fun y c hc => (by cases hc)⟩
      by_cases q : y = "addr"
      · subst q
        rw [put_self] at hy
        cases hy
        exact ⟨.str x tk, by rfl, rfl⟩
      · rw [put_ne _ _ q] at hy; cases hy
  exact key _ _ _ (show s1.toks ≤ s1.toks + 1 + 1 + 1 by (clear turn done hkL hLlt key; omega)) ⟨_, _, _, Heap.get?_push_size _ rfl, rfl, rfl, rfl⟩ rfl
end
end Mine

set_option maxRecDepth 100000
set_option maxHeartbeats 1000000
namespace Mine
def chkY : Int → List Str → Bool
  | o, [] => o == 0
  | o, y :: r => if y == ("(" : Str) then chkY (o + 1) r else if y == (")" : Str) then (if decide (o - 1 < 0) then false else chkY (o - 1) r) else chkY o r
section
variable {prog : Program} {w : World} {hB : BB} {A : Around} {env : Env} {Γ : G} {Hc : H} {mg mb : Str → Option Value} {f : Nat → Addr}
theorem Op2.notIns {x : Str} {c : Nat} {P : CV → H → Prop} (h : P (.b (!decide (c ∈ x.cps.toList))) Hc) : Op2 prog w hB A (compareOp .NotIn) (.s ⟨#[c]⟩) (.s x) Hc P :=
  Op2.strs h fun _ _ _ _ _ k => PySem.P.notIn_str (by rw [PySem.StrLaws.found_one]; exact k)
theorem Op2.ltZ {ca : CV} {a : Int} {P : CV → H → Prop} (h : P (.b (decide (a < 0))) Hc) (ha : intOf ca = some a := by rfl) : Op2 prog w hB A (compareOp .Lt) ca (.i 0) Hc P := Op2.lti h ha rfl
theorem strip_spec (B : Base hB mg mb f) {x : Str} {P : CV → H → Prop} (hx : 34 ∉ x.cps.toList) (h : P (.s x) Hc) : Fn prog w hB 1 (f 1) [.s x] Hc P := by
  refine Fn.plain B.toGl (B.fn 1 (by decide)) ["addr"] (fun A code fr hR => ?_) (bind1 fun _ _ _ _ => rfl) (by rfl)
  have e34 : (("\"" : Str)) = ⟨#[34]⟩ := by decide +kernel
  refine Ex.cons (Ex.if (Tr.compare (Ev.str (Ev.name (cv := .s x) (by rfl) (.inl (by rfl)) ?_))))
  rw [e34]
  refine Op2.notIns ⟨_, rfl, ?_⟩
  rw [decide_eq_false hx]
  refine (?_ : Ex _ _ _ _ _ _ _ _ _)
  exact Ex.one (Ex.ret (Ev.name (cv := .s x) (by rfl) (.inl (by rfl)) h))
theorem check_spec (B : Base hB mg mb f) {x : Str} {P : CV → H → Prop} (hx : 34 ∉ x.cps.toList) (hasc : x.cps.all (· < 128) = true) (hE : endEsc false x.cps.toList = false) (h : P (.b (chkY 0 (genY false x.cps.toList))) Hc) : Fn prog w hB 2 (f 2) [.s x] Hc P := by
  refine Fn.plain B.toGl (B.fn 2 (by decide)) ["addr"] (fun A code fr hR => ?_) (bind1 fun _ _ _ _ => rfl) (by rfl)
  have B' := B.deep fr
  obtain ⟨o1, pm1, code1, doc1, hm1, ho1, hd1, _⟩ := B'.fn 1 (by decide)
  refine Ex.cons (Ex.assign (Ev.callF B'.toGl hm1 ho1 hd1 hR (EvL.cons (Ev.name (cv := .s x) (by rfl) (.inl (by rfl)) (EvL.nil (strip_spec B' hx ?_))))))
  refine Ex.cons (Ex.assign (Ev.int ?_))
  generalize hres : chkY 0 (genY false x.cps.toList) = res at h
  refine Ex.cons (Ex.forGen B' hR hasc hE (by rfl) (fun ys Γ' => ∃ o : Int, Γ' "opens" = some (.i o) ∧ chkY o ys = res) ⟨0, by rfl, hres⟩ ?_ ?_ (by rfl) (by rfl) (by rfl) (by rfl))
  · rintro y rest p Γ' ⟨o, go, hr⟩
    have gc : (put (put Γ' "pos" (.w p)) "ch" (.s y)) "ch" = some (.s y) := put_self ..
    have go' : (put (put Γ' "pos" (.w p)) "ch" (.s y)) "opens" = some (.i o) := by rw [put_ne _ _ (by decide), put_ne _ _ (by decide)]; exact go
    unfold chkY at hr
    refine Ex.one (Ex.if (Tr.compare (Ev.name gc (.inl (by rfl)) (Ev.str (Op2.eqs ⟨_, rfl, ?_⟩)))))
    cases q : y == ("(" : Str) with
    | true =>
      rw [q, if_pos rfl] at hr
      refine Ex.one (Ex.aug go' (Ev.int (Op2.iadd ⟨rfl, o + 1, put_self .., hr⟩)))
    | false =>
      rw [q, if_neg Bool.false_ne_true] at hr
      refine Ex.one (Ex.if (Tr.compare (Ev.name gc (.inl (by rfl)) (Ev.str (Op2.eqs ⟨_, rfl, ?_⟩)))))
      cases q2 : y == (")" : Str) with
      | true =>
        rw [q2, if_pos rfl] at hr
        refine Ex.cons (Ex.aug go' (Ev.int (Op2.isub ?_)))
        refine Ex.one (Ex.if (Tr.compare (Ev.name (cv := .i (o - 1)) (put_self ..) (.inl (by rfl)) (Ev.int (Op2.ltZ ⟨_, rfl, ?_⟩)))))
        cases q3 : decide (o - 1 < 0) with
        | true =>
          rw [q3, if_pos rfl] at hr
          subst hr
          exact Ex.one (Ex.ret (Ev.bool h))
        | false =>
          rw [q3, if_neg Bool.false_ne_true] at hr
          exact Ex.nil ⟨rfl, o - 1, put_self .., hr⟩
      | false =>
        rw [q2, if_neg Bool.false_ne_true] at hr
        exact Ex.nil ⟨rfl, o, go', hr⟩
  · rintro Γ' ⟨o, go, hr⟩
    refine Ex.one (Ex.ret (Ev.compare (Ev.name go (.inl (by rfl)) (Ev.int (Op2.eqi ?_)))))
    have : (o == 0) = res := hr
    rw [this]; exact h
end
end Mine

set_option maxRecDepth 100000
set_option maxHeartbeats 1000000
namespace Mine
/-- a row of n ints -/
def rowL (n : Nat) (r : Nat → Int) : List CV := (List.range n).map fun j => CV.i (r j)
theorem rowL_len (n : Nat) (r : Nat → Int) : (rowL n r).length = n := by simp [rowL]
theorem rowL_get {n j : Nat} (r : Nat → Int) (h : j < n) : (rowL n r)[j]? = some (.i (r j)) := by simp [rowL, h]
theorem rowL_set {n j : Nat} (r : Nat → Int) (v : Int) : (rowL n r).set j (.i v) = rowL n fun j' => if j' = j then v else r j' := by
  apply List.ext_getElem?
  intro k
  rw [List.getElem?_set]
  by_cases hk : k < n
  · rw [rowL_get _ hk, rowL_get _ hk, rowL_len]
    by_cases q : j = k
    · subst q; simp [hk]
    · simp [q, Ne.symm q]
  · have e1 : (rowL n r)[k]? = none := by simp [rowL]; omega
    have e2 : (rowL n fun j' => if j' = j then v else r j')[k]? = none := by simp [rowL]; omega
    rw [e1, e2, rowL_len]
    by_cases q : j = k
    · subst q; simp [hk]
    · simp [q]
/-- the rows at `as`, behind the list at `R` -/
structure Mat (Hc : H) (R : Addr) (as : List Addr) (n : Nat) (M : Nat → Nat → Int) : Prop where
  list : Hc R = some (.list (as.map CV.r))
  len : as.length = n
  nd : as.Nodup
  out : R ∉ as
  row : ∀ i (h : i < as.length), Hc as[i] = some (.list (rowL n (M i)))
theorem Mat.get {Hc : H} {R : Addr} {as : List Addr} {n : Nat} {M : Nat → Nat → Int} (m : Mat Hc R as n M) {i : Nat} (h : i < n) : ∃ a, as[i]? = some a ∧ Hc a = some (.list (rowL n (M i))) ∧ (as.map CV.r)[i]? = some (.r a) := by
  have hl : i < as.length := by rw [m.len]; exact h
  exact ⟨as[i], List.getElem?_eq_getElem hl, m.row i hl, by simp [hl]⟩
def setM (M : Nat → Nat → Int) (i j : Nat) (v : Int) : Nat → Nat → Int := fun i' j' => if i' = i ∧ j' = j then v else M i' j'
theorem Mat.set {Hc : H} {R : Addr} {as : List Addr} {n : Nat} {M : Nat → Nat → Int} (m : Mat Hc R as n M) {i j : Nat} {a : Addr} (h : i < n) (ha : as[i]? = some a) (v : Int) : Mat (upd Hc a (.list ((rowL n (M i)).set j (.i v)))) R as n (setM M i j v) := by
  have hl : i < as.length := by rw [m.len]; exact h
  have ha' : as[i] = a := by rw [List.getElem?_eq_getElem hl] at ha; exact Option.some.inj ha
  refine ⟨?_, m.len, m.nd, m.out, fun i' h' => ?_⟩
  · rw [upd_ne _ _ (by rintro rfl; exact m.out (ha' ▸ List.getElem_mem hl))]; exact m.list
  · by_cases q : i' = i
    · subst q
      rw [ha', upd_self, rowL_set]
      congr 2
      unfold rowL setM
      simp
    · have hne : as[i'] ≠ a := by
        rw [← ha']
        intro e
        exact q ((List.getElem_inj m.nd).mp e)
      rw [upd_ne _ _ hne, m.row i' h']
      congr 2
      unfold rowL setM
      simp [q]
theorem Mat.ext {Hc H' : H} {R : Addr} {as : List Addr} {n : Nat} {M : Nat → Nat → Int} (m : Mat Hc R as n M) (hE : Ext Hc H') : Mat H' R as n M :=
  ⟨hE _ _ m.list, m.len, m.nd, m.out, fun i h => hE _ _ (m.row i h)⟩
theorem Mat.congr {Hc : H} {R : Addr} {as : List Addr} {n : Nat} {M M' : Nat → Nat → Int} (m : Mat Hc R as n M) (h : ∀ i j, i < n → j < n → M i j = M' i j) : Mat Hc R as n M' := by
  refine ⟨m.list, m.len, m.nd, m.out, fun i hi => ?_⟩
  rw [m.row i hi]
  congr 2
  apply List.ext_getElem?
  intro j
  by_cases hj : j < n
  · rw [rowL_get _ hj, rowL_get _ hj, h i j (by rw [← m.len]; exact hi) hj]
  · simp [rowL, hj]
section
variable {prog : Program} {w : World} {hB : BB} {A : Around} {env : Env} {Γ : G} {Hc : H} {mg mb : Str → Option Value} {f : Nat → Addr}
theorem Ev.callK {t1 : Sem Value} {ts : List (Bool × Sem Value)} {x : Str} {np pos : Pos} {es : List Expr} {d : Nat} {P : CV → H → Prop} (B : Base hB mg mb f) (k : Nat) (hkk : k < 22) (hR : Room hB d A)
    (h : EvL prog w hB A env pos es Γ Hc fun xs H1 => Fn prog w hB d (f k) xs H1 P) (hx : x = (rec k).name := by rfl)
    (hk : env.kindOf x = some .globalImplicit := by rfl) (ht1 : starEach es env = (false, t1) :: ts := by rfl) (ht : (starEach es env).all (fun t => !t.1) = true := by rfl)
    (hd : (x == ("__debug__" : Str)) = false := by decide) : Ev prog w hB A env (eval (.Call (.Name x np) es [] pos) env) Γ Hc P := by
  obtain ⟨o, pm, code, doc, hm, ho, hd', _⟩ := B.fn k hkk
  exact Ev.callF B.toGl (by rw [hx]; exact hm) ho hd' hR h hk ht1 ht hd
theorem compG_get {scope : Scope} {y : Str} {v : CV} (h : (relabel scope env).names.lookup y = some .cell) (g : Γ y = some v) : compG scope env Γ y = some v := by
  unfold compG; rw [if_pos h]; exact g
/-- `m[i][j]` -/
theorem Ev.mat {em ei ej : Expr} {p1 p2 : Pos} {R : Addr} {as : List Addr} {n : Nat} {M : Nat → Nat → Int} {i j : Nat} {ci cj : CV} {P : CV → H → Prop} (m : Mat Hc R as n M) (hi : i < n) (hj : j < n) (hn : n ≤ 100) (hci : intOf ci = some (i : Int)) (hcj : intOf cj = some (j : Int))
    (h1 : ∀ Q : CV → H → Prop, Q (.r R) Hc → Ev prog w hB A env (eval em env) Γ Hc Q) (h2 : ∀ Q : CV → H → Prop, Q ci Hc → Ev prog w hB A env (eval ei env) Γ Hc Q) (h3 : ∀ Q : CV → H → Prop, Q cj Hc → Ev prog w hB A env (eval ej env) Γ Hc Q) (h : P (.i (M i j)) Hc)
    (hs1 : ∀ o i, subscripted ei false o i = operate [o, i] (getItem o i) := by intro _ _; rfl) (hs2 : ∀ o i, subscripted ej false o i = operate [o, i] (getItem o i) := by intro _ _; rfl) :
    Ev prog w hB A env (eval (.Subscript (.Subscript em ei p1) ej p2) env) Γ Hc P := by
  obtain ⟨a, ha, hra, hma⟩ := m.get hi
  have hma' : (as.map CV.r)[((i : Nat) : Int).toNat]? = some (.r a) := by rw [Int.toNat_natCast]; exact hma
  have hrow : (rowL n (M i))[((j : Nat) : Int).toNat]? = some (.i (M i j)) := by rw [Int.toNat_natCast]; exact rowL_get (M i) hj
  refine Ev.subscript (Ev.subscript (h1 _ (h2 _ ⟨R, _, rfl, m.list, Op2.item m.list (by (clear hi hj hn h1 h2 h3 hs1 hs2; omega)) (by (clear hj h1 h2 h3 hs1 hs2; omega)) hma' ?_ hci⟩)) hs1) hs2
  exact h3 _ ⟨a, _, rfl, hra, Op2.item hra (by (clear hi hj hn h1 h2 h3 hs1 hs2; omega)) (by (clear hi h1 h2 h3 hs1 hs2; omega)) hrow h hcj⟩
theorem Ev.matRow {em ei : Expr} {p1 : Pos} {R : Addr} {as : List Addr} {n : Nat} {M : Nat → Nat → Int} {i : Nat} {ci : CV} {P : CV → H → Prop} (m : Mat Hc R as n M) (hi : i < n) (hn : n ≤ 100) (hci : intOf ci = some (i : Int))
    (h1 : ∀ Q : CV → H → Prop, Q (.r R) Hc → Ev prog w hB A env (eval em env) Γ Hc Q) (h2 : ∀ Q : CV → H → Prop, Q ci Hc → Ev prog w hB A env (eval ei env) Γ Hc Q) (h : ∀ a, as[i]? = some a → P (.r a) Hc)
    (hs1 : ∀ o i, subscripted ei false o i = operate [o, i] (getItem o i) := by intro _ _; rfl) : Ev prog w hB A env (eval (.Subscript em ei p1) env) Γ Hc P := by
  obtain ⟨a, ha, hra, hma⟩ := m.get hi
  have hma' : (as.map CV.r)[((i : Nat) : Int).toNat]? = some (.r a) := by rw [Int.toNat_natCast]; exact hma
  exact Ev.subscript (h1 _ (h2 _ ⟨R, _, rfl, m.list, Op2.item m.list (by (clear hi hn h1 h2 h hs1; omega)) (by (clear h1 h2 h hs1; omega)) hma' (h a ha) hci⟩)) hs1
end
def swp (M : Nat → Nat → Int) (k p : Nat) : Nat → Nat → Int := fun i j => if i = k then M p j else if i = p then M k j else M i j
def elim (M : Nat → Nat → Int) (k : Nat) (ah : Int) : Nat → Nat → Int := fun i j => if k < i ∧ k < j then (M i j * M k k - M i k * M k j).fdiv ah else M i j
def part (M : Nat → Nat → Int) (k : Nat) (ah : Int) (i0 j0 : Nat) : Nat → Nat → Int := fun i j => if k < i ∧ k < j ∧ (i < i0 ∨ (i = i0 ∧ j < j0)) then (M i j * M k k - M i k * M k j).fdiv ah else M i j
/-- the elimination, told step by step -/
inductive Worth (n : Nat) (res : Int) : Nat → (Nat → Nat → Int) → Int → Int → Prop
  | done {k M sg ah} (h1 : k + 1 = n) (h2 : sg.natAbs < 2) (h3 : (M k k).natAbs < 2 ^ 1000) (h4 : res = sg * M k k) : Worth n res k M sg ah
  | zero {k M sg ah} (h1 : k + 1 < n) (h2 : ∀ i, k ≤ i → i < n → M i k = 0) (h3 : res = 0) : Worth n res k M sg ah
  | step {k M sg ah} (p : Nat) (h1 : k + 1 < n) (h2 : k ≤ p) (h3 : p < n) (h4 : M p k ≠ 0) (h5 : ∀ i, k ≤ i → i < p → M i k = 0) (h6 : ah ≠ 0) (h7 : ah.natAbs < 2 ^ 1000) (h8 : ∀ i j, i < n → j < n → (M i j).natAbs < 2 ^ 1000)
      (next : Worth n res (k + 1) (elim (swp M k p) k ah) (if p = k then sg else -sg) (swp M k p k k)) : Worth n res k M sg ah
theorem part_start (M : Nat → Nat → Int) (k : Nat) (ah : Int) (i j : Nat) : part M k ah (k + 1) (k + 1) i j = M i j := by
  unfold part; rw [if_neg]; omega
theorem part_step (M : Nat → Nat → Int) (k : Nat) (ah : Int) {i0 j0 : Nat} (hi : k < i0) (hj : k < j0) : setM (part M k ah i0 j0) i0 j0 ((M i0 j0 * M k k - M i0 k * M k j0).fdiv ah) = part M k ah i0 (j0 + 1) := by
  funext i j
  unfold setM part
  by_cases q : i = i0 ∧ j = j0
  · obtain ⟨rfl, rfl⟩ := q
    rw [if_pos ⟨rfl, rfl⟩, if_pos (by omega)]
  · rw [if_neg q]
    by_cases z : k < i ∧ k < j ∧ (i < i0 ∨ (i = i0 ∧ j < j0))
    · rw [if_pos z, if_pos (by (clear hi hj q; omega))]
    · rw [if_neg z, if_neg (by (clear hj; omega))]
theorem part_row (M : Nat → Nat → Int) (k : Nat) (ah : Int) {i0 n i j : Nat} (hj : j < n) : part M k ah i0 n i j = part M k ah (i0 + 1) (k + 1) i j := by
  unfold part
  by_cases z : k < i ∧ k < j ∧ (i < i0 ∨ (i = i0 ∧ j < n))
  · rw [if_pos z, if_pos (by (clear hj; omega))]
  · rw [if_neg z, if_neg (by omega)]
theorem part_end (M : Nat → Nat → Int) (k : Nat) (ah : Int) {n i j : Nat} (hi : i < n) : part M k ah n (k + 1) i j = elim M k ah i j := by
  unfold part elim
  by_cases z : k < i ∧ k < j
  · rw [if_pos z, if_pos (by omega)]
  · rw [if_neg z, if_neg (by omega)]
theorem part_at (M : Nat → Nat → Int) (k : Nat) (ah : Int) (i0 j0 : Nat) : part M k ah i0 j0 i0 j0 = M i0 j0 ∧ part M k ah i0 j0 k k = M k k ∧ part M k ah i0 j0 i0 k = M i0 k ∧ part M k ah i0 j0 k j0 = M k j0 := by
  unfold part
  refine ⟨?_, ?_, ?_, ?_⟩ <;> rw [if_neg] <;> omega
end Mine

set_option maxRecDepth 100000
set_option maxHeartbeats 2000000
namespace Mine
theorem log2_small {a : Int} (h : a.natAbs < 2 ^ 1000) (h0 : a ≠ 0) : a.natAbs.log2 < 9000 :=
  Nat.lt_trans ((Nat.log2_lt (by (clear h; omega))).mpr h) (by decide)
theorem mul_ok {a b : Int} (ha : a.natAbs < 2 ^ 1000) (hb : b.natAbs < 2 ^ 1000) : IntMulOk a b := IntMulOk.of_le (bits_int ha) (bits_int hb) (by decide)
/-- what the elimination's loops keep -/
structure WSt (Hc H' : H) (Γ : G) (R : Addr) (as : List Addr) (n : Nat) (M : Nat → Nat → Int) (sg ah : Int) : Prop where
  rows : Γ "rows" = some (.r R)
  size : Γ "size" = some (.i (n : Int))
  sign : Γ "sign" = some (.i sg)
  ahead : Γ "ahead" = some (.i ah)
  mat : Mat H' R as n M
  ext : Ext Hc H'
  hR : Hc R = none
  has : ∀ a ∈ as, Hc a = none
theorem WSt.put {Hc H' : H} {Γ : G} {R : Addr} {as : List Addr} {n : Nat} {M : Nat → Nat → Int} {sg ah : Int} (w : WSt Hc H' Γ R as n M sg ah) (x : Str) (v : CV) (h : x ≠ "rows" ∧ x ≠ "size" ∧ x ≠ "sign" ∧ x ≠ "ahead") : WSt Hc H' (Mine.put Γ x v) R as n M sg ah :=
  ⟨by rw [put_ne _ _ (Ne.symm h.1)]; exact w.rows, by rw [put_ne _ _ (Ne.symm h.2.1)]; exact w.size, by rw [put_ne _ _ (Ne.symm h.2.2.1)]; exact w.sign, by rw [put_ne _ _ (Ne.symm h.2.2.2)]; exact w.ahead, w.mat, w.ext, w.hR, w.has⟩
theorem WSt.set {Hc H' : H} {Γ : G} {R : Addr} {as : List Addr} {n : Nat} {M : Nat → Nat → Int} {sg ah : Int} (w : WSt Hc H' Γ R as n M sg ah) {i j : Nat} {a : Addr} (h : i < n) (ha : as[i]? = some a) (v : Int) :
    WSt Hc (upd H' a (.list ((rowL n (M i)).set j (.i v)))) Γ R as n (setM M i j v) sg ah :=
  ⟨w.rows, w.size, w.sign, w.ahead, w.mat.set h ha v, w.ext.upd (w.has a (List.mem_of_getElem? ha)) _, w.hR, w.has⟩
section
variable {prog : Program} {w : World} {hB : BB} {A : Around} {env : Env} {Γ : G} {Hc : H} {mg mb : Str → Option Value} {f : Nat → Addr}

def wBody : List Stmt := match (rec 20).body with
  | [_, _, _, _, .For _ _ b _ _, _] => b
  | _ => []
def wI : Stmt := match wBody with
  | [_, _, _, s, _] => s
  | _ => .Pass default
abbrev wEnv (fr : Addr) (f : Nat → Addr) (code : Value) : Env := envOfC (rec 20).name (rec 20).scope fr (f 20) code
theorem range_item {a : Int} {m i : Nat} {xi : CV} (hx : (Src.range a m).items[i]? = some xi) : i < m ∧ xi = .i (a + i) := by
  rcases Nat.lt_or_ge i m with h | h
  · have : (Src.range a m).items[i]? = some (.i (a + i)) := by simp [Src.items, h]
    rw [this] at hx
    exact ⟨h, (Option.some.inj hx).symm⟩
  · have : (Src.range a m).items[i]? = none := by simp [Src.items, h]
    rw [this] at hx; cases hx
/-- the two inner loops -/
theorem elim_loops (B : Base hB mg mb f) {fr : Addr} {code : Value} (hR : Room (hB.deep fr) 1 A) {R : Addr} {as : List Addr} {n k : Nat} {M : Nat → Nat → Int} {sg ah : Int} {H1 : H} {Γ1 : G} {Q : CF → G → H → Prop} (hn : n ≤ 100) (hk1 : k + 1 < n) (W : WSt Hc H1 Γ1 R as n M sg ah) (hk : Γ1 "k" = some (.i (k : Int)))
    (h0 : ah ≠ 0) (h1 : ah.natAbs < 2 ^ 1000) (h2 : ∀ i j, i < n → j < n → (M i j).natAbs < 2 ^ 1000)
    (h : ∀ Γ' H', WSt Hc H' Γ' R as n (elim M k ah) sg ah → Γ' "k" = some (.i (k : Int)) → Q .next Γ' H') : Ex prog w (hB.deep fr) A (wEnv fr f code) (exec wI (wEnv fr f code)) Γ1 H1 Q := by
  have B' := B.deep fr
  have hmr : mg "range" = none := B.free _ (by decide +kernel) (by decide +kernel)
  have nR : ∀ (Γ' : G) (H' : H) (M' : Nat → Nat → Int) (w' : WSt Hc H' Γ' R as n M' sg ah) (p : Pos) (Q' : CV → H → Prop), Q' (.r R) H' → Ev prog w (hB.deep fr) A (wEnv fr f code) (eval (.Name "rows" p) (wEnv fr f code)) Γ' H' Q' := fun Γ' H' M' w' p Q' q => Ev.name w'.rows (.inr (by rfl)) q
  have nL : ∀ (x : Str) (Γ' : G) (H' : H) (c : CV) (p : Pos) (Q' : CV → H → Prop), Γ' x = some c → (wEnv fr f code).kindOf x = some .local ∨ (wEnv fr f code).kindOf x = some .cell → (x == ("__debug__" : Str)) = false → Q' c H' → Ev prog w (hB.deep fr) A (wEnv fr f code) (eval (.Name x p) (wEnv fr f code)) Γ' H' Q' := fun x Γ' H' c p Q' g kd hd q => Ev.name g kd q hd
  refine Ex.for (hR.less (by decide)) (It.range2 B'.toGl hmr (Ev.binop (Ev.name hk (.inr (by rfl)) (Ev.int (Op2.addN (a := k) (b := 1) (Ev.name W.size (.inl (by rfl)) ⟨_, _, rfl, rfl, by (clear hn hk1 h0 h1 h2 h nR nL; omega), by (clear h0 h1 h2 h nR nL; omega), by (clear hk1 h0 h1 h2 h nR nL; omega), by (clear hk1 h0 h1 h2 h nR nL; omega), ?_⟩))))))
  refine ⟨fun d Γ' H' => WSt Hc H' Γ' R as n (part M k ah (k + 1 + d) (k + 1)) sg ah ∧ Γ' "k" = some (.i (k : Int)), ⟨⟨W.rows, W.size, W.sign, W.ahead, W.mat.congr fun i j _ _ => (part_start M k ah i j).symm, W.ext, W.hR, W.has⟩, hk⟩, ?_, ?_⟩
  · rintro d xi Γ2 H2 hx - ⟨W2, hk2⟩
    obtain ⟨hd, rfl⟩ := range_item hx
    have hid : k + 1 + d < n := by (clear hn h0 h1 h2 h nR nL; omega)
    have exi : (((k + 1 : Nat) : Int) + (d : Int)) = ((k + 1 + d : Nat) : Int) := by (clear hn hk1 h0 h1 h2 h nR nL hd hid; omega)
    rw [exi]
    generalize hi0 : k + 1 + d = i0 at *
    have W3 := W2.put "i" (.i (i0 : Int)) (by decide)
    have hk3 : (put Γ2 "i" (.i (i0 : Int))) "k" = some (.i (k : Int)) := by rw [put_ne _ _ (by decide)]; exact hk2
    have hi3 : (put Γ2 "i" (.i (i0 : Int))) "i" = some (.i (i0 : Int)) := put_self ..
    generalize put Γ2 "i" (.i (i0 : Int)) = Γ3 at *
    refine Ex.one (Ex.for (hR.less (by decide)) (It.range2 B'.toGl hmr (Ev.binop (Ev.name hk3 (.inr (by rfl)) (Ev.int (Op2.addN (a := k) (b := 1) (Ev.name W3.size (.inl (by rfl)) ⟨_, _, rfl, rfl, by (clear hn hk1 h0 h1 h2 h nR nL hd hid exi; omega), by (clear h0 h1 h2 h nR nL hd hid exi; omega), by (clear hk1 h0 h1 h2 h nR nL hd hi0 hid exi; omega), by (clear hk1 h0 h1 h2 h nR nL hd hi0 hid exi; omega), ?_⟩)))))))
    refine ⟨fun e Γ' H' => WSt Hc H' Γ' R as n (part M k ah i0 (k + 1 + e)) sg ah ∧ Γ' "k" = some (.i (k : Int)) ∧ Γ' "i" = some (.i (i0 : Int)), ⟨W3, hk3, hi3⟩, ?_, ?_⟩
    · rintro e xj Γ4 H4 hx4 - ⟨W4, hk4, hi4⟩
      obtain ⟨he, rfl⟩ := range_item hx4
      have hjd : k + 1 + e < n := by (clear hn h0 h1 h2 h nR nL hd hid exi; omega)
      have exj : (((k + 1 : Nat) : Int) + (e : Int)) = ((k + 1 + e : Nat) : Int) := by (clear hn hk1 h0 h1 h2 h nR nL hd hi0 hid exi he hjd; omega)
      rw [exj]
      generalize hj0 : k + 1 + e = j0 at *
      have W5 := W4.put "j" (.i (j0 : Int)) (by decide)
      have hk5 : (put Γ4 "j" (.i (j0 : Int))) "k" = some (.i (k : Int)) := by rw [put_ne _ _ (by decide)]; exact hk4
      have hi5 : (put Γ4 "j" (.i (j0 : Int))) "i" = some (.i (i0 : Int)) := by rw [put_ne _ _ (by decide)]; exact hi4
      have hj5 : (put Γ4 "j" (.i (j0 : Int))) "j" = some (.i (j0 : Int)) := put_self ..
      generalize put Γ4 "j" (.i (j0 : Int)) = Γ5 at *
      obtain ⟨q1, q2, q3, q4⟩ := part_at M k ah i0 j0
      have mt := W5.mat
      have hkn : k < n := by (clear hn h0 h1 h2 h nR nL hd hid exi he hjd exj q1 q2 q3 q4; omega)
      have b1 := h2 i0 j0 hid hjd
      have b2 := h2 k k hkn hkn
      have b3 := h2 i0 k hid hkn
      have b4 := h2 k j0 hkn hjd
      have ni : ∀ (p : Pos) (Q' : CV → H → Prop), Q' (.i (i0 : Int)) H4 → Ev prog w (hB.deep fr) A (wEnv fr f code) (eval (.Name "i" p) (wEnv fr f code)) Γ5 H4 Q' := fun p Q' q => nL "i" _ _ _ p Q' hi5 (.inl (by rfl)) (by decide) q
      have nj : ∀ (p : Pos) (Q' : CV → H → Prop), Q' (.i (j0 : Int)) H4 → Ev prog w (hB.deep fr) A (wEnv fr f code) (eval (.Name "j" p) (wEnv fr f code)) Γ5 H4 Q' := fun p Q' q => nL "j" _ _ _ p Q' hj5 (.inl (by rfl)) (by decide) q
      have nk : ∀ (p : Pos) (Q' : CV → H → Prop), Q' (.i (k : Int)) H4 → Ev prog w (hB.deep fr) A (wEnv fr f code) (eval (.Name "k" p) (wEnv fr f code)) Γ5 H4 Q' := fun p Q' q => nL "k" _ _ _ p Q' hk5 (.inr (by rfl)) (by decide) q
      have nr : ∀ (p : Pos) (Q' : CV → H → Prop), Q' (.r R) H4 → Ev prog w (hB.deep fr) A (wEnv fr f code) (eval (.Name "rows" p) (wEnv fr f code)) Γ5 H4 Q' := fun p Q' q => nR _ _ _ W5 p Q' q
      refine Ex.cons (Ex.assign (Ev.callK B' 9 (by decide) hR (EvL.cons (Ev.callK B' 6 (by decide) hR (EvL.cons (Ev.mat mt hid hjd hn rfl rfl (nr _) (ni _) (nj _) (EvL.cons (Ev.mat mt hkn hkn hn rfl rfl (nr _) (nk _) (nk _) (EvL.nil (mul_spec B' rfl rfl ?_ ?_))))))))))
      · rw [q1, q2]; exact mul_ok b1 b2
      refine EvL.cons (Ev.callK B' 6 (by decide) hR (EvL.cons (Ev.mat mt hid hkn hn rfl rfl (nr _) (ni _) (nk _) (EvL.cons (Ev.mat mt hkn hjd hn rfl rfl (nr _) (nk _) (nj _) (EvL.nil (mul_spec B' rfl rfl ?_ ?_)))))))
      · rw [q3, q4]; exact mul_ok b3 b4
      refine EvL.nil (sub_spec B' rfl rfl ?_)
      rw [q1, q2, q3, q4]
      generalize hv : M i0 j0 * M k k - M i0 k * M k j0 = v
      have W6 := W5.put "both" (.i v) (by decide)
      have hb6 : (put Γ5 "both" (.i v)) "both" = some (.i v) := put_self ..
      have hi6 : (put Γ5 "both" (.i v)) "i" = some (.i (i0 : Int)) := by rw [put_ne _ _ (by decide)]; exact hi5
      have hj6 : (put Γ5 "both" (.i v)) "j" = some (.i (j0 : Int)) := by rw [put_ne _ _ (by decide)]; exact hj5
      have hk6 : (put Γ5 "both" (.i v)) "k" = some (.i (k : Int)) := by rw [put_ne _ _ (by decide)]; exact hk5
      generalize put Γ5 "both" (.i v) = Γ6 at *
      refine Ex.one (Ex.expr (Ev.callK B' 12 (by decide) hR (EvL.cons (Ev.matRow mt hid hn rfl (fun Q' q => nR _ _ _ W6 _ Q' q) (fun Q' q => nL "i" _ _ _ _ Q' hi6 (.inl (by rfl)) (by decide) q) fun a ha => ?_))))
      refine EvL.cons (nL "j" _ _ _ _ _ hj6 (.inl (by rfl)) (by decide) (EvL.cons (Ev.callK B' 5 (by decide) hR (EvL.cons (nL "both" _ _ _ _ _ hb6 (.inl (by rfl)) (by decide) (EvL.cons (nL "ahead" _ _ _ _ _ W6.ahead (.inl (by rfl)) (by decide) (EvL.nil (floordiv_spec B' rfl rfl h0 (PyProof.noPylong_of_log2 (log2_small h1 h0)) (EvL.nil ?_))))))))))
      obtain ⟨a', ha', hra, _⟩ := mt.get hid
      rw [ha] at ha'
      cases ha'
      refine setitem_spec B' hra (k := (j0 : Int)) rfl (by (clear hn hk1 h0 h1 h2 h nR nL hd hi0 hid exi he hj0 hjd exj q1 q2 q3 q4 hkn b1 b2 b3 b4 ni nj nk nr hv; omega)) (by (clear hk1 h0 h1 h2 h nR nL hd hi0 hid exi he hj0 exj q1 q2 q3 q4 hkn b1 b2 b3 b4 ni nj nk nr hv; omega)) (by rw [rowL_len]; (clear hn hk1 h0 h1 h2 h nR nL hd hid exi he exj q1 q2 q3 q4 hkn b1 b2 b3 b4 ni nj nk nr hv; omega)) ?_
      rw [Int.toNat_natCast]
      have W7 := W6.set (j := j0) hid ha (v.fdiv ah)
      rw [← hv, part_step M k ah (by (clear hn hk1 h0 h1 h2 h nR nL hd hid exi he hjd exj q1 q2 q3 q4 hkn b1 b2 b3 b4 ni nj nk nr hv; omega)) (by (clear hn hk1 h0 h1 h2 h nR nL hd hid exi he hjd exj q1 q2 q3 q4 hkn b1 b2 b3 b4 ni nj nk nr hv; omega))] at W7
      have e7 : k + 1 + (e + 1) = j0 + 1 := by (clear hn hk1 h0 h1 h2 h nR nL hd hid exi he hjd exj q1 q2 q3 q4 hkn b1 b2 b3 b4 ni nj nk nr hv; omega)
      rw [hv] at W7
      exact ⟨trivial, by rw [e7]; exact W7, hk6, hi6⟩
    · rintro Γ4 H4 ⟨W4, hk4, hi4⟩
      have e1 : k + 1 + (Src.range ((k + 1 : Nat) : Int) (((n : Nat) : Int) - ((k + 1 : Nat) : Int)).toNat).items.length = n := by simp [Src.items]; (clear hn h0 h1 h2 h nR nL hd hid exi; omega)
      rw [e1] at W4
      have e2 : k + 1 + (d + 1) = i0 + 1 := by (clear hn hk1 h0 h1 h2 h nR nL hd hid exi e1; omega)
      exact ⟨trivial, by rw [e2]; exact ⟨W4.rows, W4.size, W4.sign, W4.ahead, W4.mat.congr fun i j _ hj => part_row M k ah hj, W4.ext, W4.hR, W4.has⟩, hk4⟩
  · rintro Γ2 H2 ⟨W2, hk2⟩
    have e1 : k + 1 + (Src.range ((k + 1 : Nat) : Int) (((n : Nat) : Int) - ((k + 1 : Nat) : Int)).toNat).items.length = n := by simp [Src.items]; (clear hn h0 h1 h2 h nR nL; omega)
    rw [e1] at W2
    exact h Γ2 H2 ⟨W2.rows, W2.size, W2.sign, W2.ahead, W2.mat.congr fun i j hi _ => part_end M k ah hi, W2.ext, W2.hR, W2.has⟩ hk2
end
end Mine

set_option maxRecDepth 100000
set_option maxHeartbeats 2000000
namespace Mine
theorem nodup_of_inj : ∀ {l : List Addr}, (∀ i j (hi : i < l.length) (hj : j < l.length), i < j → l[i] ≠ l[j]) → l.Nodup := fun h => List.pairwise_iff_getElem.mpr h
theorem Mat.swap {Hc : H} {R : Addr} {as : List Addr} {n k p : Nat} {M : Nat → Nat → Int} {ak ap : Addr} (m : Mat Hc R as n M) (hk : k < n) (hp : p < n) (hak : as[k]? = some ak) (hap : as[p]? = some ap) (hne : p ≠ k) :
    Mat (upd (upd Hc R (.list ((as.map CV.r).set k (.r ap)))) R (.list (((as.map CV.r).set k (.r ap)).set p (.r ak)))) R ((as.set k ap).set p ak) n (swp M k p) := by
  have hkl : k < as.length := by rw [m.len]; exact hk
  have hpl : p < as.length := by rw [m.len]; exact hp
  have ek : as[k] = ak := by rw [List.getElem?_eq_getElem hkl] at hak; exact Option.some.inj hak
  have ep : as[p] = ap := by rw [List.getElem?_eq_getElem hpl] at hap; exact Option.some.inj hap
  subst ek ep
  have hlen : ((as.set k as[p]).set p as[k]).length = as.length := by simp
  have hget : ∀ i (h : i < ((as.set k as[p]).set p as[k]).length), ((as.set k as[p]).set p as[k])[i] = if i = p then as[k] else if i = k then as[p] else as[i]'(by rw [hlen] at h; exact h) := by
    intro i h
    rw [List.getElem_set, List.getElem_set]
    by_cases q : p = i
    · simp [q]
    · simp [q, Ne.symm q]
      by_cases z : k = i
      · simp [z]
      · simp [z, Ne.symm z]
  have inj : ∀ i j (hi : i < as.length) (hj : j < as.length), as[i] = as[j] → i = j := fun i j hi hj e => (List.getElem_inj m.nd).mp e
  have hmem : ∀ a ∈ (as.set k as[p]).set p as[k], a ∈ as := by
    intro a ha
    obtain ⟨i, hi, rfl⟩ := List.getElem_of_mem ha
    rw [hget i hi]
    split
    · exact List.getElem_mem hkl
    · split
      · exact List.getElem_mem hpl
      · exact List.getElem_mem _
  refine ⟨?_, by rw [hlen]; exact m.len, nodup_of_inj fun i j hi hj hij e => ?_, fun h => m.out (hmem _ h), fun i hi => ?_⟩
  · rw [upd_self]
    simp [List.map_set]
  · rw [hget i hi, hget j hj] at e
    have hi' : i < as.length := by rw [← hlen]; exact hi
    have hj' : j < as.length := by rw [← hlen]; exact hj
    by_cases a1 : i = p <;> by_cases a2 : i = k <;> by_cases b1 : j = p <;> by_cases b2 : j = k <;> first
      | (clear hk hp hlen hget inj hmem hi hj e hi' hj'; omega)
      | (have hkp : ¬ k = p := Ne.symm hne
         simp only [a1, a2, b1, b2, hkp, if_true, if_false] at e
         have := inj _ _ _ _ e
         (clear hk hp hne hlen hget inj hmem hi hj hi' hj' e; omega))
  · have hneR : ((as.set k as[p]).set p as[k])[i] ≠ R := fun e => m.out (e ▸ hmem _ (List.getElem_mem hi))
    rw [upd_ne _ _ hneR, upd_ne _ _ hneR, hget i hi]
    have hi' : i < as.length := by rw [← hlen]; exact hi
    unfold swp
    by_cases q : i = p
    · subst q
      have hne' : ¬ i = k := hne
      rw [if_pos rfl]
      simp only [hne', if_false, if_true]
      exact m.row k hkl
    · rw [if_neg q]
      by_cases z : i = k
      · subst z
        rw [if_pos rfl]
        simp only [if_true]
        exact m.row p hpl
      · rw [if_neg z]
        simp only [z, q, if_false]
        exact m.row i hi'
/-- the candidates for the pivot -/
def cand (M : Nat → Nat → Int) (k m : Nat) : List Nat := ((List.range m).map (k + ·)).filter fun r => decide (M r k ≠ 0)
theorem cand_mem {M : Nat → Nat → Int} {k m r : Nat} : r ∈ cand M k m ↔ k ≤ r ∧ r < k + m ∧ M r k ≠ 0 := by
  unfold cand
  rw [List.mem_filter, List.mem_map]
  constructor
  · rintro ⟨⟨d, hd, rfl⟩, h⟩
    rw [List.mem_range] at hd
    exact ⟨by (clear hd; omega), by omega, by simpa using h⟩
  · rintro ⟨h1, h2, h3⟩
    exact ⟨⟨r - k, List.mem_range.mpr (by (clear h3; omega)), by (clear h2 h3; omega)⟩, by simpa using h3⟩
theorem cand_sorted (M : Nat → Nat → Int) (k m : Nat) : (cand M k m).Pairwise (· < ·) := by
  unfold cand
  refine List.Pairwise.filter _ ?_
  rw [List.pairwise_map]
  exact List.pairwise_lt_range.imp fun h => by omega
theorem cand_succ (M : Nat → Nat → Int) (k m : Nat) : cand M k (m + 1) = cand M k m ++ (if M (k + m) k ≠ 0 then [k + m] else []) := by
  unfold cand
  rw [List.range_succ, List.map_append, List.filter_append]
  congr 1
  by_cases q : M (k + m) k = 0 <;> simp [q]
theorem cand_head {M : Nat → Nat → Int} {k m p p0 : Nat} {rest : List Nat} (h : cand M k m = p0 :: rest) (h1 : k ≤ p) (h2 : p < k + m) (h3 : M p k ≠ 0) (h4 : ∀ i, k ≤ i → i < p → M i k = 0) : p0 = p := by
  have hp : p ∈ cand M k m := cand_mem.mpr ⟨h1, h2, h3⟩
  have h0 : p0 ∈ cand M k m := by rw [h]; exact List.mem_cons_self ..
  obtain ⟨a, b, c⟩ := cand_mem.mp h0
  have hs := cand_sorted M k m
  rw [h] at hp hs
  rcases List.mem_cons.mp hp with e | e
  · exact e.symm
  · have := (List.pairwise_cons.mp hs).1 p e
    exact absurd (h4 p0 a this) c
end Mine

set_option maxRecDepth 100000
set_option maxHeartbeats 2000000
namespace Mine
section
variable {prog : Program} {w : World} {hB : BB} {A : Around} {env : Env} {Γ : G} {Hc : H} {mg mb : Str → Option Value} {f : Nat → Addr}
theorem list_item {l : Addr} {xs : List CV} {i : Nat} {xi : CV} (hx : (Src.list l xs).items[i]? = some xi) : i < xs.length ∧ xs[i]? = some xi :=
  ⟨(List.getElem?_eq_some_iff.mp hx).1, hx⟩
theorem worth_spec (B : Base hB mg mb f) {t : Addr} {ts : List Addr} {n : Nat} {M : Nat → Nat → Int} {res : Int} {P : CV → H → Prop} (ht : Hc t = some (.list (ts.map CV.r))) (hn : ts.length = n) (hr : ∀ i (h : i < ts.length), Hc ts[i] = some (.list (rowL n (M i)))) (hn0 : 1 ≤ n) (hn1 : n ≤ 100)
    (hW : Worth n res 0 M 1 1) (h : ∀ H', Ext Hc H' → P (.i res) H') : Fn prog w hB 2 (f 20) [.r t] Hc P := by
  refine Fn.cells B.toGl (B.fn 20 (by decide)) ["table"] (fun A code fr hR => ?_) (bind1 fun _ _ _ _ => rfl) (by rfl)
  have B' := B.deep fr
  have hml : mg "len" = none := B.free _ (by decide +kernel) (by decide +kernel)
  have hmr : mg "range" = none := B.free _ (by decide +kernel) (by decide +kernel)
  refine Ex.cons (Ex.assign (Ev.comp (hR.less (by decide)) ⟨rfl, rfl, by decide, by decide, (by intro p hp; cases hp), by rfl, by rfl⟩ (It.list (Ev.name (cv := .r t) (by rfl) (.inl (by rfl)) ⟨t, _, rfl, ht, ?_⟩))))
  refine ⟨fun i ys H' => ∃ as : List Addr, ys = as.map CV.r ∧ as.length = i ∧ as.Nodup ∧ Ext Hc H' ∧ (∀ a ∈ as, Hc a = none) ∧ ∀ j (h : j < as.length), H' as[j] = some (.list (rowL n (M j))), ⟨[], rfl, rfl, List.nodup_nil, Ext.refl _, by simp, by simp⟩, ?_, ?_⟩
  · rintro Ca i xi ys H' hx - ⟨as, rfl, hlen, hnd, hE, hnone, hrow⟩
    obtain ⟨hi, hx⟩ := list_item hx
    have hi' : i < ts.length := by simpa using hi
    have exi : xi = .r ts[i] := by simpa [hi'] using hx.symm
    subst exi
    refine ⟨by simp; (clear hr h hnone hrow hi; omega), ?_⟩
    refine (?_ : Ev _ _ _ _ _ _ _ _ _)
    refine Ev.slice (Ev.name (put_self ..) (.inl (by rfl)) (EvO.nil (EvO.nil ⟨ts[i], rowL n (M i), rowL n (M i), rfl, hE _ _ (hr i hi'), by rw [rowL_len]; (clear hn hr h hlen hnone hrow hi; omega), pick_all, fun a ha => ?_⟩)))
    have hna : a ∉ as := fun hm => by
      obtain ⟨j, hj, rfl⟩ := List.getElem_of_mem hm
      rw [hrow j hj] at ha; cases ha
    refine ⟨(hE.new ha _) _ _ ht, as ++ [a], by simp, by simp [hlen], ?_, hE.new ha _, ?_, ?_⟩
    · rw [List.nodup_append]
      exact ⟨hnd, by simp, by intro b hb c hc; rw [List.mem_singleton.mp hc]; rintro rfl; exact hna hb⟩
    · intro b hb
      rcases List.mem_append.mp hb with hb | hb
      · exact hnone b hb
      · rw [List.mem_singleton.mp hb]; exact hE.off ha
    · intro j hj
      by_cases q : j < as.length
      · rw [List.getElem_append_left q, upd_ne _ _ (by rintro e; rw [← e, hrow j q] at ha; cases ha)]
        exact hrow j q
      · have : j = as.length := by simp at hj; (clear hn hr hn0 hn1 h hnone hrow hi hna; omega)
        subst this
        simp [upd_self, hlen]
  rintro ys H1 ⟨as, rfl, hlen, hnd, hE, hnone, hrow⟩ R hR0
  have hlen' : as.length = n := by rw [hlen]; simp [Src.items, hn]
  have mat0 : Mat (upd H1 R (.list (as.map CV.r))) R as n M := by
    refine ⟨upd_self .., hlen', hnd, fun hm => ?_, fun i hi => ?_⟩
    · obtain ⟨j, hj, rfl⟩ := List.getElem_of_mem hm
      rw [hrow j hj] at hR0; cases hR0
    · rw [upd_ne _ _ (by rintro e; rw [← e, hrow i hi] at hR0; cases hR0)]; exact hrow i hi
  refine Ex.cons (Ex.assign (Ev.callB (id := "len") B'.toGl hml (by kernel_rfl) (EvL.cons (Ev.name (cv := .r R) (put_self ..) (.inr (by rfl)) (EvL.nil (Bi.len (upd_self ..) (by simp; (clear hn hr h hnone hrow; omega)) ?_))))))
  refine Ex.cons (Ex.assign (Ev.int ?_))
  refine Ex.cons (Ex.assign (Ev.int ?_))
  have w0 : WSt Hc (upd H1 R (.list (as.map CV.r))) (put (put (put (put (BindsC ["table"] [.r t]) "rows" (.r R)) "size" (.i ((as.map CV.r).length : Int))) "sign" (.i 1)) "ahead" (.i 1)) R as n M 1 1 := by
    refine ⟨by rw [put_ne _ _ (by decide), put_ne _ _ (by decide), put_ne _ _ (by decide), put_self], ?_, by rw [put_ne _ _ (by decide), put_self], put_self .., mat0, hE.new hR0 _, hE.off hR0, hnone⟩
    rw [put_ne _ _ (by decide), put_ne _ _ (by decide), put_self, List.length_map, hlen']
  generalize (put (put (put (put (BindsC ["table"] [.r t]) "rows" (.r R)) "size" (.i ((as.map CV.r).length : Int))) "sign" (.i 1)) "ahead" (.i 1)) = Γ0 at w0 ⊢
  refine Ex.cons (Ex.for (hR.less (by decide)) (It.range1 B'.toGl hmr (Ev.binop (Ev.name w0.size (.inl (by rfl)) (Ev.int (Op2.subi (a := (n : Int)) (b := 1) ⟨_, rfl, by (clear hn hr h hnone hrow; omega), by (clear hn hr h hnone hrow; omega), ?_⟩))))))
  have hcnt : ((n : Int) - 1).toNat = n - 1 := by (clear hn hr h hnone hrow; omega)
  rw [hcnt]
  refine ⟨fun i Γ' H' => ∃ as M' sg ah, WSt Hc H' Γ' R as n M' sg ah ∧ Worth n res i M' sg ah, ⟨as, M, 1, 1, w0, hW⟩, ?_, ?_⟩
  · rintro i xi Γ' H' hx - ⟨as', M', sg, ah, st, W⟩
    obtain ⟨hi, rfl⟩ := range_item hx
    have exi : ((0 : Int) + (i : Int)) = ((i : Nat) : Int) := by (clear hn hr hn0 hn1 h hlen hnone hrow hlen' hcnt hi; omega)
    rw [exi]
    have hi1 : i + 1 < n := by (clear hn hr h hnone hrow hcnt exi; omega)
    have st2 := st.put "k" (.i (i : Int)) (by decide)
    have gk : (put Γ' "k" (.i (i : Int))) "k" = some (.i (i : Int)) := put_self ..
    generalize put Γ' "k" (.i (i : Int)) = Γ2 at *
    refine Ex.cons (Ex.assignComp (hR.less (by decide)) ⟨rfl, rfl, by decide, by decide, (List.forall_mem_cons.mpr ⟨rfl, List.forall_mem_cons.mpr ⟨rfl, by intro p hp; cases hp⟩⟩), by rfl, by rfl⟩ (It.range2 B'.toGl hmr (Ev.name gk (.inr (by rfl)) (Ev.name st2.size (.inl (by rfl)) ⟨_, _, rfl, rfl, by (clear hn hr hn0 hn1 h hlen hnone hrow hlen' hcnt hi exi hi1; omega), by (clear hn hr h hnone hrow hcnt hi exi; omega), by (clear hn hr h hnone hrow hcnt hi exi hi1; omega), by (clear hn hr h hnone hrow hcnt hi exi hi1; omega), ?_⟩))))
    have hcn : ((n : Int) - (i : Int)).toNat = n - i := by (clear hn hr hn0 hn1 h hnone hrow hcnt hi exi; omega)
    rw [hcn]
    refine ⟨fun d ys H'' => H'' = H' ∧ ys = cis (cand M' i d), ⟨rfl, rfl⟩, ?_, ?_⟩
    · rintro Ca d xd ys H'' hxd - ⟨rfl, rfl⟩
      obtain ⟨hd, rfl⟩ := range_item hxd
      have exd : ((i : Int) + (d : Int)) = ((i + d : Nat) : Int) := by (clear hn hr hn0 hn1 h hlen hnone hrow hlen' hcnt hi exi hi1 hcn hd; omega)
      rw [exd]
      have hdn : i + d < n := by (clear hn hr hn0 hn1 h hnone hrow hcnt hi exi hcn exd; omega)
      refine ⟨by
        have : (cand M' i d).length ≤ d := by
          unfold cand
          exact Nat.le_trans (List.length_filter_le ..) (by simp)
        simp [cis]; (clear hn hr h hnone hrow hcnt hi exi hi1 hcn hd exd; omega), ?_⟩
      refine (?_ : Tr _ _ _ _ _ _ _ _ _)
      have hin : i < n := by (clear hn hr hn0 hn1 h hnone hrow hcnt hi exi hcn hd exd hdn; omega)
      refine Tr.compare (Ev.mat (i := i + d) (j := i) st2.mat hdn hin hn1 rfl rfl (fun Q' q => Ev.name (by rw [put_ne _ _ (by decide)]; exact compG_get (by rfl) st2.rows) (.inr (by rfl)) q) (fun Q' q => Ev.name (put_self ..) (.inl (by rfl)) q) (fun Q' q => Ev.name (by rw [put_ne _ _ (by decide)]; exact compG_get (by rfl) gk) (.inr (by rfl)) q) ?_)
      refine Ev.int (Op2.nei ⟨_, rfl, ?_⟩)
      by_cases q : M' (i + d) i = 0
      · rw [q]
        refine (?_ : _ ∧ _)
        refine ⟨trivial, rfl, ?_⟩
        rw [cand_succ]; simp [q]
      · have e : (M' (i + d) i != 0) = true := by simpa using q
        rw [e]
        refine (?_ : Ev _ _ _ _ _ _ _ _ _)
        refine Ev.name (put_self ..) (.inl (by rfl)) ⟨trivial, rfl, ?_⟩
        rw [cand_succ, if_pos q, cis_append]; rfl
    · rintro ys H'' ⟨rfl, rfl⟩ Fa hFa
      have el : (Src.range ((i : Nat) : Int) (n - i)).items.length = n - i := by simp [Src.items]
      rw [el]
      have hFN : Hc Fa = none := st2.ext.off hFa
      have st3 : WSt Hc (upd H'' Fa (.list (cis (cand M' i (n - i))))) (put Γ2 "free" (.r Fa)) R as' n M' sg ah := by
        have z := st2.put "free" (.r Fa) (by decide)
        exact ⟨z.rows, z.size, z.sign, z.ahead, z.mat.ext ((Ext.refl H'').new hFa _), z.ext.new hFa _, z.hR, z.has⟩
      have gk3 : (put Γ2 "free" (.r Fa)) "k" = some (.i (i : Int)) := by rw [put_ne _ _ (by decide)]; exact gk
      have gf3 : (put Γ2 "free" (.r Fa)) "free" = some (.r Fa) := put_self ..
      have hF3 : (upd H'' Fa (.list (cis (cand M' i (n - i))))) Fa = some (.list (cis (cand M' i (n - i)))) := upd_self ..
      generalize put Γ2 "free" (.r Fa) = Γ3 at *
      generalize upd H'' Fa (.list (cis (cand M' i (n - i)))) = H3 at *
      refine Ex.cons (Ex.if (Tr.compare (Ev.name gf3 (.inl (by rfl)) (Ev.list (EvL.nil ⟨by simp, fun el hel => ?_⟩)))))
      have hne : Fa ≠ el := by rintro rfl; rw [hF3] at hel; cases hel
      refine Op2.eql (hR.less (by decide)) (by rw [upd_ne _ _ hne]; exact hF3) (upd_self ..) (cis_isInts _) (ms := []) rfl ⟨_, rfl, ?_⟩
      have hF4 : (upd H3 el (.list [])) Fa = some (.list (cis (cand M' i (n - i)))) := by rw [upd_ne _ _ hne]; exact hF3
      have st4 : WSt Hc (upd H3 el (.list [])) Γ3 R as' n M' sg ah := ⟨st3.rows, st3.size, st3.sign, st3.ahead, st3.mat.ext ((Ext.refl H3).new hel _), st3.ext.new hel _, st3.hR, st3.has⟩
      generalize upd H3 el (.list []) = H4 at *
      cases hc : cand M' i (n - i) with
      | nil =>
        refine (?_ : Ex _ _ _ _ _ _ _ _ _)
        have hres : res = 0 := by
          cases W with
          | done h1 => (clear hn hr hn0 hn1 h hnone hrow hcnt hi exi hcn hne; omega)
          | zero h1 h2 h3 => exact h3
          | step p h1 h2 h3 h4 h5 =>
            have : p ∈ cand M' i (n - i) := cand_mem.mpr ⟨h2, by (clear hn hr hn0 hn1 h hnone hrow hcnt hi exi hcn hne h1 h2 h5; omega), h4⟩
            rw [hc] at this; cases this
        subst hres
        exact Ex.one (Ex.ret (Ev.int (h H4 st4.ext)))
      | cons p0 rest =>
        refine (?_ : Ex _ _ _ _ _ _ _ _ _)
        rw [hc] at hF4
        cases W with
        | done h1 => (clear hn hr hn0 hn1 h hnone hrow hcnt hi exi hcn hne; omega)
        | zero h1 h2 h3 =>
          have : p0 ∈ cand M' i (n - i) := by rw [hc]; exact List.mem_cons_self ..
          obtain ⟨a, b, c⟩ := cand_mem.mp this
          exact absurd (h2 p0 a (by (clear hn hr hn0 hn1 h hnone hrow hcnt hi exi hcn hne h3 h1 h2 a; omega))) c
        | step p h1 h2 h3 h4 h5 h6 h7 h8 next =>
          have hp0 : p0 = p := cand_head hc h2 (by (clear hn hr hn0 hn1 h hnone hrow hcnt hi exi hcn hne h1 h2 h8 h5; omega)) h4 h5
          subst hp0
          have hi0 : i < n := by (clear hn hr hn0 hn1 h hnone hrow hcnt hi exi hcn hne h1 h8 h6 h7 h3 h2 h4 h5; omega)
          have fin : ∀ (as5 : List Addr) (sg5 : Int) (Γ5 : G) (H5 : H), sg5 = (if p0 = i then sg else -sg) → WSt Hc H5 Γ5 R as5 n (swp M' i p0) sg5 ah → Γ5 "k" = some (.i (i : Int)) → ∀ (q1 q2 q3 q4 q5 q6 q7 : Pos) (Q5 : CF → G → H → Prop),
              Ex prog w (hB.deep fr) A (wEnv fr f code) (execs [wI, .Assign [.Name "ahead" q1] (.Subscript (.Subscript (.Name "rows" q2) (.Name "k" q3) q4) (.Name "k" q5) q6) q7] (wEnv fr f code)) Γ5 H5
                (turnEnd (fun Γ'' H'' => True ∧ ∃ as M' sg ah, WSt Hc H'' Γ'' R as n M' sg ah ∧ Worth n res (i + 1) M' sg ah) Q5) := by
            intro as5 sg5 Γ5 H5 hsg st5 gk5 q1 q2 q3 q4 q5 q6 q7 Q5
            refine Ex.cons (elim_loops B hR hn1 h1 st5 gk5 h6 h7 (fun a b ha hb => ?_) fun Γ6 H6 st6 gk6 => ?_)
            · unfold swp
              split
              · exact h8 _ _ h3 hb
              · split
                · exact h8 _ _ hi0 hb
                · exact h8 _ _ ha hb
            · refine Ex.one (Ex.assign (Ev.mat st6.mat hi0 hi0 hn1 rfl rfl (fun Q' q => Ev.name st6.rows (.inr (by rfl)) q) (fun Q' q => Ev.name gk6 (.inr (by rfl)) q) (fun Q' q => Ev.name gk6 (.inr (by rfl)) q) ?_))
              have e : elim (swp M' i p0) i ah i i = swp M' i p0 i i := by unfold elim; rw [if_neg (by (clear hn hr hn0 hn1 h hlen hnone hrow hlen' hcnt hi exi hi1 hcn hne h1 h8 h6 h7 h3 h2 h4 h5 hi0 hsg; omega))]
              rw [e]
              refine ⟨trivial, as5, elim (swp M' i p0) i ah, sg5, swp M' i p0 i i, ?_, by rw [hsg]; exact next⟩
              exact ⟨by rw [put_ne _ _ (by decide)]; exact st6.rows, by rw [put_ne _ _ (by decide)]; exact st6.size, by rw [put_ne _ _ (by decide)]; exact st6.sign, put_self .., st6.mat, st6.ext, st6.hR, st6.has⟩
          have pEvH : ∀ (H5 : H), H5 Fa = some (.list (cis (p0 :: rest))) → ∀ (Q' : CV → H → Prop), Q' (.i ((p0 : Nat) : Int)) H5 → ∀ (q1 q2 q3 : Pos) (k1 : Nat), Ev prog w (hB.deep fr) A (wEnv fr f code) (eval (.Subscript (.Name "free" q1) (.Constant (.int 0) k1 q2) q3) (wEnv fr f code)) Γ3 H5 Q' := fun H5 hF5 Q' q q1 q2 q3 k1 =>
            Ev.subscript (Ev.name gf3 (.inl (by rfl)) (Ev.int ⟨Fa, _, rfl, hF5, Op2.item (k := 0) (x := .i ((p0 : Nat) : Int)) hF5 (by decide) (by decide) rfl q rfl⟩))
          have pEv := pEvH H4 hF4
          refine Ex.nil ?_
          refine (?_ : Ex _ _ _ _ _ _ _ _ _)
          refine Ex.cons (Ex.if (Tr.compare (pEv _ (Ev.name gk3 (.inr (by rfl)) (Op2.neN ⟨_, rfl, ?_⟩)) _ _ _ _)))
          by_cases hpi : p0 = i
          · rw [decide_eq_true hpi]
            refine (?_ : Ex _ _ _ _ _ _ _ _ _)
            refine Ex.nil ?_
            have e : swp M' i p0 = M' := by
              funext a b; unfold swp; rw [hpi]
              by_cases q : a = i <;> simp [q]
            exact fin as' sg Γ3 H4 (by rw [if_pos hpi]) (by rw [e]; exact st4) gk3 _ _ _ _ _ _ _ _
          · rw [decide_eq_false hpi]
            refine (?_ : Ex _ _ _ _ _ _ _ _ _)
            obtain ⟨ap, hap, hrap, hmap⟩ := st4.mat.get h3
            obtain ⟨ak, hak, hrak, hmak⟩ := st4.mat.get hi0
            have hmap' : (as'.map CV.r)[((p0 : Nat) : Int).toNat]? = some (.r ap) := by rw [Int.toNat_natCast]; exact hmap
            have hmak' : (as'.map CV.r)[((i : Nat) : Int).toNat]? = some (.r ak) := by rw [Int.toNat_natCast]; exact hmak
            have hl4 := st4.mat.list
            have hlen4 := st4.mat.len
            refine Ex.cons (Ex.assignTup (hR.less (by decide)) (Ev.tuple (EvL.cons (Ev.subscript (Ev.name st4.rows (.inr (by rfl)) (pEv _ ⟨R, _, rfl, hl4, Op2.item hl4 (by (clear hn hr hn0 hn1 h hlen hnone hrow hlen' hcnt hi exi hi1 hcn hne h1 h8 h6 h7 h3 h2 h4 h5 hi0 fin pEvH pEv hpi hlen4; omega)) (by (clear hn hr h hnone hrow hcnt hi exi hcn hne h1 h8 h6 h7 h2 h4 h5 hi0 fin pEvH pEv hpi; omega)) hmap' ?_ rfl⟩ _ _ _ _))))))
            refine EvL.cons (Ev.subscript (Ev.name st4.rows (.inr (by rfl)) (Ev.name gk3 (.inr (by rfl)) ⟨R, _, rfl, hl4, Op2.item hl4 (by (clear hn hr hn0 hn1 h hlen hnone hrow hlen' hcnt hi exi hi1 hcn hne h1 h8 h6 h7 h3 h2 h4 h5 hi0 fin pEvH pEv hpi hlen4; omega)) (by (clear hn hr h hnone hrow hcnt hi exi hcn hne h1 h8 h6 h7 h3 h2 h4 h5 hi0 fin pEvH pEv hpi; omega)) hmak' ?_ rfl⟩)))
            refine EvL.nil ⟨by simp, fun T hT => ⟨T, _, rfl, upd_self .., rfl, ?_⟩⟩
            have hRT : R ≠ T := by rintro rfl; rw [hl4] at hT; cases hT
            have hFT : Fa ≠ T := by rintro rfl; rw [hF4] at hT; cases hT
            have hTas : ∀ a ∈ as', a ≠ T := by
              rintro a ha rfl
              obtain ⟨j, hj, rfl⟩ := List.getElem_of_mem ha
              rw [st4.mat.row j hj] at hT; cases hT
            have hRF : Fa ≠ R := by rintro rfl; rw [hl4] at hF4; exact absurd hF4 (by intro e; have := CO.list.inj (Option.some.inj e); have := congrArg List.head? this; cases as' <;> simp [cis] at this)
            have stT : WSt Hc (upd H4 T (.tup [.r ap, .r ak])) Γ3 R as' n M' sg ah := ⟨st4.rows, st4.size, st4.sign, st4.ahead, st4.mat.ext ((Ext.refl H4).new hT _), st4.ext.new hT _, st4.hR, st4.has⟩
            have hF5 : (upd H4 T (.tup [.r ap, .r ak])) Fa = some (.list (cis (p0 :: rest))) := by rw [upd_ne _ _ hFT]; exact hF4
            generalize upd H4 T (.tup [.r ap, .r ak]) = H5 at *
            have hl5 := stT.mat.list
            refine AsL.cons (As.sub (Ev.name stT.rows (.inr (by rfl)) (Ev.name gk3 (.inr (by rfl)) ⟨R, _, _, rfl, rfl, hl5, by (clear hn hr hn0 hn1 h hlen hnone hrow hlen' hcnt hi exi hi1 hcn hne h1 h8 h6 h7 h3 h2 h4 h5 hi0 fin pEvH pEv hpi hlen4 hRT hFT hTas hRF; omega), by (clear hn hr h hnone hrow hcnt hi exi hcn hne h1 h8 h6 h7 h3 h2 h4 h5 hi0 fin pEvH pEv hpi hRT hFT hTas hRF; omega), by rw [List.length_map, hlen4]; (clear hn hr h hnone hrow hcnt hi exi hcn hne h1 h8 h6 h7 h3 h2 h4 h5 hi0 fin pEvH pEv hpi hRT hFT hTas hRF; omega), ?_⟩)))
            have hF6 : ∀ co, (upd H5 R co) Fa = some (.list (cis (p0 :: rest))) := fun co => by rw [upd_ne _ _ hRF]; exact hF5
            refine AsL.cons (As.sub (Ev.name stT.rows (.inr (by rfl)) (pEvH _ (hF6 _) _ ⟨R, _, _, rfl, rfl, upd_self .., by (clear hn hr hn0 hn1 h hlen hnone hrow hlen' hcnt hi exi hi1 hcn hne h1 h8 h6 h7 h3 h2 h4 h5 hi0 fin pEvH pEv hpi hlen4 hRT hFT hTas hRF hF6; omega), by (clear hn hr h hnone hrow hcnt hi exi hcn hne h1 h8 h6 h7 h2 h4 h5 hi0 fin pEvH pEv hpi hRT hFT hTas hRF hF6; omega), by rw [List.length_set, List.length_map, hlen4]; (clear hn hr h hnone hrow hcnt hi exi hcn hne h1 h8 h6 h7 h2 h4 h5 hi0 fin pEvH pEv hpi hRT hFT hTas hRF hF6; omega), ?_⟩ _ _ _ _)))
            refine AsL.nil ?_
            have ms := stT.mat.swap hi0 h3 hak hap hpi
            have hRn : Hc R = none := stT.hR
            have memb : ∀ (l : List Addr) (k : Nat) (x : Addr), x ∈ as' → (∀ a ∈ l, a ∈ as') → ∀ a ∈ l.set k x, a ∈ as' := fun l k x hx hl a ha => by
              rcases List.mem_or_eq_of_mem_set ha with q | q
              · exact hl a q
              · rw [q]; exact hx
            have hmem : ∀ a ∈ (as'.set i ap).set p0 ak, a ∈ as' := memb _ _ _ (List.mem_of_getElem? hak) (memb _ _ _ (List.mem_of_getElem? hap) fun a h => h)
            refine Ex.cons (Ex.assign (Ev.callK B' 7 (by decide) hR (EvL.cons (Ev.name stT.sign (.inl (by rfl)) (EvL.nil (neg_spec B' rfl ?_))))))
            refine Ex.nil ?_
            rw [Int.toNat_natCast, Int.toNat_natCast]
            refine fin ((as'.set i ap).set p0 ak) (-sg) _ _ (by rw [if_neg hpi]) ?_ ?_ _ _ _ _ _ _ _ _
            · exact ⟨by rw [put_ne _ _ (by decide)]; exact stT.rows, by rw [put_ne _ _ (by decide)]; exact stT.size, put_self .., by rw [put_ne _ _ (by decide)]; exact stT.ahead, ms, (stT.ext.upd hRn _).upd hRn _, hRn, fun a ha => stT.has a (hmem a ha)⟩
            · rw [put_ne _ _ (by decide)]; exact gk3
  · rintro Γ' H' ⟨as', M', sg, ah, st, W⟩
    have e1 : (Src.range 0 (n - 1)).items.length = n - 1 := by simp [Src.items]
    rw [e1] at W
    cases W with
    | zero h1 => (clear hn hr h hnone hrow hcnt; omega)
    | step p h1 => (clear hn hr h hnone hrow hcnt; omega)
    | done h1 h2 h3 h4 =>
      subst h4
      have hk : n - 1 < n := by (clear hn hr hn0 hn1 hnone hrow hcnt h3 h2 h; omega)
      have en : (n : Int) - 1 = ((n - 1 : Nat) : Int) := by (clear hn hr hn0 hn1 hnone hrow hcnt h3 h2 h hk; omega)
      have nS : ∀ (p : Pos) (Q' : CV → H → Prop), Q' (.i ((n - 1 : Nat) : Int)) H' → ∀ (p1 p2 p3 : Pos) (k1 : Nat), Ev prog w (hB.deep fr) A (wEnv fr f code) (eval (.BinOp (.Name "size" p1) .Sub (.Constant (.int 1) k1 p2) p3) (wEnv fr f code)) Γ' H' Q' := fun p Q' q p1 p2 p3 k1 =>
        Ev.binop (Ev.name st.size (.inl (by rfl)) (Ev.int (Op2.subi (a := (n : Int)) (b := 1) (by rw [en]; exact q))))
      refine Ex.one (Ex.ret (Ev.callK B' 6 (by decide) hR (EvL.cons (Ev.name st.sign (.inl (by rfl)) (EvL.cons (Ev.mat st.mat hk hk hn1 rfl rfl (fun Q' q => Ev.name st.rows (.inr (by rfl)) q) (fun Q' q => nS default Q' q _ _ _ _) (fun Q' q => nS default Q' q _ _ _ _) (EvL.nil (mul_spec B' rfl rfl ?_ ?_))))))))
      · exact mul_ok (Nat.lt_trans h2 (by decide)) h3
      · exact h H' st.ext
end
end Mine

set_option maxRecDepth 100000
set_option maxHeartbeats 2000000
namespace Mine
/-! the walk around the tree -/
def rN (x : Int) : Nat := ((x.fdiv 12).fmod 512).toNat
def wt (x : Int) : Nat := if x.fmod 3 = 0 then 64 * rN x + 28 else if x.fmod 3 = 1 then 4096 * rN x + 1820 else rN x
def turns (x : Int) : Nat := ((x.fdiv 3).fmod 4).toNat
theorem rN_lt (x : Int) : rN x < 512 := by
  unfold rN
  have h1 := Int.fmod_lt_of_pos (x.fdiv 12) (b := 512) (by decide)
  have h2 := Int.fmod_nonneg_of_pos (x.fdiv 12) (b := 512) (by decide)
  omega
theorem rN_eq (x : Int) : (x.fdiv 12).fmod 512 = ((rN x : Nat) : Int) := by
  unfold rN
  have h2 := Int.fmod_nonneg_of_pos (x.fdiv 12) (b := 512) (by decide)
  omega
theorem turns_eq (x : Int) : (x.fdiv 3).fmod 4 = ((turns x : Nat) : Int) := by
  unfold turns
  have h2 := Int.fmod_nonneg_of_pos (x.fdiv 3) (b := 4) (by decide)
  omega
theorem turns_lt (x : Int) : turns x < 4 := by
  unfold turns
  have h1 := Int.fmod_lt_of_pos (x.fdiv 3) (b := 4) (by decide)
  omega
theorem wt_lt (x : Int) : wt x < 2 ^ 21 := by
  have := rN_lt x
  unfold wt
  split
  · omega
  · split <;> omega
structure Wk where
  steps : List Nat
  firsts : List Nat
  parents : List Nat
  weights : List Nat
  way : List Nat
def Wk.opens (s : Wk) (x : Int) : Wk := ⟨s.steps ++ [64 * wt x + 40], s.firsts ++ [s.steps.length + 1], s.parents ++ [s.way.getLastD 0], s.weights ++ [wt x], s.way ++ [s.weights.length]⟩
def Wk.close (s : Wk) : Wk := if 1 < s.way.length then ⟨s.steps ++ [64 * s.weights.getD (s.way.getLastD 0) 0 + 41], s.firsts, s.parents, s.weights, s.way.dropLast⟩ else s
def Wk.closes : Nat → Wk → Wk
  | 0, s => s
  | n + 1, s => (Wk.closes n s).close
def Wk.item (s : Wk) (x : Int) : Wk := Wk.closes (turns x) (s.opens x)
def wk0 : Wk := ⟨[], [0], [0], [0], [0]⟩
def walkN (xs : List Int) : Wk := Wk.closes (xs.foldl Wk.item wk0).way.length (xs.foldl Wk.item wk0)
theorem Wk.closes_in (n : Nat) (s : Wk) : Wk.closes (n + 1) s = Wk.closes n s.close := by
  induction n with
  | zero => rfl
  | succ n ih => show (Wk.closes (n + 1) s).close = (Wk.closes n s.close).close; rw [ih]
structure Wk.Ok (k : Nat) (s : Wk) : Prop where
  ne : s.way ≠ []
  lt : ∀ e ∈ s.way, e < s.weights.length
  len : s.weights.length = k + 1
  tot : s.steps.length + s.way.length = 2 * k + 1
  sml : ∀ e ∈ s.weights, e < 2 ^ 21
  firsts : s.firsts.length = k + 1
  parents : s.parents.length = k + 1
theorem Wk.Ok.start : Wk.Ok 0 wk0 := ⟨by decide, by decide, rfl, rfl, by decide, rfl, rfl⟩
theorem Wk.Ok.opens {k : Nat} {s : Wk} (h : s.Ok k) (x : Int) : (s.opens x).Ok (k + 1) := by
  refine ⟨by simp [Wk.opens], fun e he => ?_, by simp [Wk.opens, h.len], by have := h.tot; simp [Wk.opens]; omega, fun e he => ?_, by simp [Wk.opens, h.firsts], by simp [Wk.opens, h.parents]⟩
  · simp only [Wk.opens, List.mem_append, List.mem_singleton, List.length_append, List.length_cons, List.length_nil] at he ⊢
    rcases he with he | rfl
    · have := h.lt e he; omega
    · omega
  · simp only [Wk.opens, List.mem_append, List.mem_singleton] at he
    rcases he with he | rfl
    · exact h.sml e he
    · exact wt_lt x
theorem Wk.Ok.close {k : Nat} {s : Wk} (h : s.Ok k) : s.close.Ok k := by
  unfold Wk.close
  split
  · rename_i hl
    refine ⟨?_, fun e he => h.lt e ((List.dropLast_sublist _).mem he), h.len, ?_, h.sml, h.firsts, h.parents⟩
    · intro e
      have := congrArg List.length e
      simp only [List.length_dropLast, List.length_nil] at this
      omega
    · have := h.tot
      simp only [List.length_append, List.length_dropLast, List.length_cons, List.length_nil]
      omega
  · exact h
theorem Wk.Ok.closes {k : Nat} {s : Wk} (h : s.Ok k) : ∀ n, (Wk.closes n s).Ok k
  | 0 => h
  | n + 1 => (Wk.Ok.closes h n).close
theorem Wk.Ok.item {k : Nat} {s : Wk} (h : s.Ok k) (x : Int) : (s.item x).Ok (k + 1) := (h.opens x).closes _
theorem Wk.Ok.items {s : Wk} : ∀ {k : Nat} (xs : List Int), s.Ok k → (xs.foldl Wk.item s).Ok (k + xs.length) := by
  intro k xs h
  induction xs generalizing s k with
  | nil => exact h
  | cons x r ih =>
    have := ih (h.item x)
    have e : k + (x :: r).length = k + 1 + r.length := by simp; (clear ih; omega)
    rw [e]; exact this
/-- the walk's five lists -/
structure WkSt (Hc H' : H) (Γ : G) (a b c d e : Addr) (s : Wk) : Prop where
  ga : Γ "steps" = some (.r a)
  gb : Γ "firsts" = some (.r b)
  gc : Γ "parents" = some (.r c)
  gd : Γ "weights" = some (.r d)
  ge : Γ "way" = some (.r e)
  ha : H' a = some (.list (cis s.steps))
  hb : H' b = some (.list (cis s.firsts))
  hc : H' c = some (.list (cis s.parents))
  hd : H' d = some (.list (cis s.weights))
  he : H' e = some (.list (cis s.way))
  nd : [a, b, c, d, e].Nodup
  none : ∀ x ∈ [a, b, c, d, e], Hc x = none
  ext : Ext Hc H'
section
variable {Hc H' : H} {Γ : G} {a b c d e : Addr} {s : Wk}
theorem WkSt.put (w : WkSt Hc H' Γ a b c d e s) (x : Str) (v : CV) (h : x ≠ "steps" ∧ x ≠ "firsts" ∧ x ≠ "parents" ∧ x ≠ "weights" ∧ x ≠ "way") : WkSt Hc H' (Mine.put Γ x v) a b c d e s :=
  ⟨by rw [put_ne _ _ (Ne.symm h.1)]; exact w.ga, by rw [put_ne _ _ (Ne.symm h.2.1)]; exact w.gb, by rw [put_ne _ _ (Ne.symm h.2.2.1)]; exact w.gc, by rw [put_ne _ _ (Ne.symm h.2.2.2.1)]; exact w.gd, by rw [put_ne _ _ (Ne.symm h.2.2.2.2)]; exact w.ge, w.ha, w.hb, w.hc, w.hd, w.he, w.nd, w.none, w.ext⟩
theorem WkSt.ne (w : WkSt Hc H' Γ a b c d e s) : a ≠ b ∧ a ≠ c ∧ a ≠ d ∧ a ≠ e ∧ b ≠ c ∧ b ≠ d ∧ b ≠ e ∧ c ≠ d ∧ c ≠ e ∧ d ≠ e := by
  have := w.nd
  simp only [List.nodup_cons, List.mem_cons, List.not_mem_nil, or_false, not_or, List.nodup_nil, and_true] at this
  exact ⟨this.1.1, this.1.2.1, this.1.2.2.1, this.1.2.2.2, this.2.1.1, this.2.1.2.1, this.2.1.2.2, this.2.2.1.1, this.2.2.1.2, this.2.2.2.1⟩
theorem WkSt.setA (w : WkSt Hc H' Γ a b c d e s) (xs : List Nat) : WkSt Hc (upd H' a (.list (cis xs))) Γ a b c d e { s with steps := xs } := by
  obtain ⟨n1, n2, n3, n4, n5, n6, n7, n8, n9, n10⟩ := w.ne
  exact ⟨w.ga, w.gb, w.gc, w.gd, w.ge, upd_self .., by rw [upd_ne _ _ (by first | assumption | (apply Ne.symm; assumption))]; exact w.hb, by rw [upd_ne _ _ (by first | assumption | (apply Ne.symm; assumption))]; exact w.hc, by rw [upd_ne _ _ (by first | assumption | (apply Ne.symm; assumption))]; exact w.hd, by rw [upd_ne _ _ (by first | assumption | (apply Ne.symm; assumption))]; exact w.he, w.nd, w.none, w.ext.upd (w.none a (by simp)) _⟩
theorem WkSt.setB (w : WkSt Hc H' Γ a b c d e s) (xs : List Nat) : WkSt Hc (upd H' b (.list (cis xs))) Γ a b c d e { s with firsts := xs } := by
  obtain ⟨n1, n2, n3, n4, n5, n6, n7, n8, n9, n10⟩ := w.ne
  exact ⟨w.ga, w.gb, w.gc, w.gd, w.ge, by rw [upd_ne _ _ (by first | assumption | (apply Ne.symm; assumption))]; exact w.ha, upd_self .., by rw [upd_ne _ _ (by first | assumption | (apply Ne.symm; assumption))]; exact w.hc, by rw [upd_ne _ _ (by first | assumption | (apply Ne.symm; assumption))]; exact w.hd, by rw [upd_ne _ _ (by first | assumption | (apply Ne.symm; assumption))]; exact w.he, w.nd, w.none, w.ext.upd (w.none b (by simp)) _⟩
theorem WkSt.setC (w : WkSt Hc H' Γ a b c d e s) (xs : List Nat) : WkSt Hc (upd H' c (.list (cis xs))) Γ a b c d e { s with parents := xs } := by
  obtain ⟨n1, n2, n3, n4, n5, n6, n7, n8, n9, n10⟩ := w.ne
  exact ⟨w.ga, w.gb, w.gc, w.gd, w.ge, by rw [upd_ne _ _ (by first | assumption | (apply Ne.symm; assumption))]; exact w.ha, by rw [upd_ne _ _ (by first | assumption | (apply Ne.symm; assumption))]; exact w.hb, upd_self .., by rw [upd_ne _ _ (by first | assumption | (apply Ne.symm; assumption))]; exact w.hd, by rw [upd_ne _ _ (by first | assumption | (apply Ne.symm; assumption))]; exact w.he, w.nd, w.none, w.ext.upd (w.none c (by simp)) _⟩
theorem WkSt.setD (w : WkSt Hc H' Γ a b c d e s) (xs : List Nat) : WkSt Hc (upd H' d (.list (cis xs))) Γ a b c d e { s with weights := xs } := by
  obtain ⟨n1, n2, n3, n4, n5, n6, n7, n8, n9, n10⟩ := w.ne
  exact ⟨w.ga, w.gb, w.gc, w.gd, w.ge, by rw [upd_ne _ _ (by first | assumption | (apply Ne.symm; assumption))]; exact w.ha, by rw [upd_ne _ _ (by first | assumption | (apply Ne.symm; assumption))]; exact w.hb, by rw [upd_ne _ _ (by first | assumption | (apply Ne.symm; assumption))]; exact w.hc, upd_self .., by rw [upd_ne _ _ (by first | assumption | (apply Ne.symm; assumption))]; exact w.he, w.nd, w.none, w.ext.upd (w.none d (by simp)) _⟩
theorem WkSt.setE (w : WkSt Hc H' Γ a b c d e s) (xs : List Nat) : WkSt Hc (upd H' e (.list (cis xs))) Γ a b c d e { s with way := xs } := by
  obtain ⟨n1, n2, n3, n4, n5, n6, n7, n8, n9, n10⟩ := w.ne
  exact ⟨w.ga, w.gb, w.gc, w.gd, w.ge, by rw [upd_ne _ _ (by first | assumption | (apply Ne.symm; assumption))]; exact w.ha, by rw [upd_ne _ _ (by first | assumption | (apply Ne.symm; assumption))]; exact w.hb, by rw [upd_ne _ _ (by first | assumption | (apply Ne.symm; assumption))]; exact w.hc, by rw [upd_ne _ _ (by first | assumption | (apply Ne.symm; assumption))]; exact w.hd, upd_self .., w.nd, w.none, w.ext.upd (w.none e (by simp)) _⟩
end
end Mine

set_option maxRecDepth 100000
set_option maxHeartbeats 2000000
namespace Mine
section
variable {prog : Program} {w : World} {hB : BB} {A : Around} {env : Env} {Γ : G} {Hc : H} {mg mb : Str → Option Value} {f : Nat → Addr}
abbrev kEnv (fr : Addr) (f : Nat → Addr) (code : Value) : Env := envOf (rec 13).name (rec 13).scope fr (f 13) code
theorem last_cis {xs : List Nat} (h : xs ≠ []) : (cis xs)[((-1 : Int) + (cis xs).length).toNat]? = some (.i ((xs.getLastD 0 : Nat) : Int)) := by
  have hpos : 0 < xs.length := List.length_pos_iff.mpr h
  have e : ((-1 : Int) + (cis xs).length).toNat = xs.length - 1 := by simp [cis]; omega
  rw [e]
  have h2 : xs[xs.length - 1]? = some (xs.getLastD 0) := by
    rw [← List.getLast?_eq_getElem?, List.getLastD_eq_getLast?]
    cases hq : xs.getLast? with
    | none => exact absurd (List.getLast?_eq_none_iff.mp hq) h
    | some t => rfl
  simp [cis, h2]
theorem last_split {xs : List Nat} (h : xs ≠ []) : cis xs = cis xs.dropLast ++ [.i ((xs.getLastD 0 : Nat) : Int)] := by
  have e : xs = xs.dropLast ++ [xs.getLastD 0] := by
    have := (List.dropLast_concat_getLast h).symm
    rw [List.getLastD_eq_getLast?, List.getLast?_eq_some_getLast h]
    exact this
  conv => lhs; rw [e]
  rw [cis_append]; rfl
theorem cis_get {xs : List Nat} {i : Nat} (h : i < xs.length) : (cis xs)[((i : Nat) : Int).toNat]? = some (.i ((xs.getD i 0 : Nat) : Int)) := by
  have e : xs[i]? = some (xs.getD i 0) := by rw [List.getD_eq_getElem?_getD, List.getElem?_eq_getElem h]; rfl
  rw [Int.toNat_natCast]
  unfold cis
  rw [List.getElem?_map, e]; rfl
theorem cis_snoc (xs : List Nat) (x : Nat) : cis (xs ++ [x]) = cis xs ++ [CV.i (x : Int)] := cis_append xs [x]
/-- `steps.append(64 * weights[way.pop()] + 41)` -/
theorem close_run {fr : Addr} {code : Value} {H1 : H} {a b c d e : Addr} {s : Wk} {k : Nat} {Q : CF → G → H → Prop} {p1 p2 p3 p4 p5 p6 p7 p8 p9 p10 p11 p12 p13 : Pos} (W : WkSt Hc H1 Γ a b c d e s) (ok : s.Ok k) (hk : k ≤ 100000) (hl : 1 < s.way.length)
    (h : ∀ H2, WkSt Hc H2 Γ a b c d e s.close → Q .next Γ H2) (hp : (p2.endLine == p12.line) = true := by rfl) (hp' : (p6.endLine == p7.line) = true := by rfl) :
    Ex prog w hB A (kEnv fr f code) (exec (.Expr (.Call (.Attribute (.Name "steps" p1) "append" p2) [.BinOp (.BinOp (.Constant (.int 64) 0 p3) .Mult (.Subscript (.Name "weights" p4) (.Call (.Attribute (.Name "way" p5) "pop" p6) [] [] p7) p8) p9) .Add (.Constant (.int 41) 0 p10) p11] [] p12) p13) (kEnv fr f code)) Γ H1 Q := by
  have tot := ok.tot
  have hlast : s.way.getLastD 0 < s.weights.length := by
    refine ok.lt _ ?_
    rw [List.getLastD_eq_getLast?, List.getLast?_eq_some_getLast ok.ne]
    exact List.getLast_mem ok.ne
  have hx := cis_get hlast
  have hb : s.weights.length = k + 1 := ok.len
  have W2 := W.setE s.way.dropLast
  refine Ex.expr (Ev.append (Ev.name W.ga (.inl (by rfl)) ⟨a, _, rfl, W.ha, ?_⟩) (by rfl) hp (by rfl))
  refine Ev.binop (Ev.binop (Ev.int (Ev.subscript (Ev.name W.gd (.inl (by rfl)) (Ev.pop (Ev.name W.ge (.inl (by rfl)) ⟨e, _, _, rfl, by rw [W.he, last_split ok.ne], by simp [cis]; (clear hl h hlast; omega), ?_⟩) (by rfl) hp')))))
  refine ⟨d, _, rfl, W2.hd, Op2.item W2.hd (by (clear hk hl h tot hlast hb; omega)) (by (clear h; omega)) hx ?_ rfl⟩
  refine Op2.mulN (a := 64) (b := s.weights.getD (s.way.getLastD 0) 0) (by decide) (Ev.int (Op2.addN (b := 41) ?_))
  refine ⟨_, W2.ha, by simp [cis]; (clear h hlast; omega), h _ ?_⟩
  have W3 := W2.setA (s.steps ++ [64 * s.weights.getD (s.way.getLastD 0) 0 + 41])
  have e1 : s.close = { { s with way := s.way.dropLast } with steps := s.steps ++ [64 * s.weights.getD (s.way.getLastD 0) 0 + 41] } := by unfold Wk.close; rw [if_pos hl]
  rw [e1]
  rw [cis_snoc] at W3
  exact W3
def kBody : List Stmt := match (rec 13).body with
  | [_, _, _, _, _, .For _ _ b _ _, _, _] => b
  | _ => []
theorem Wk.close_ok_iff {s : Wk} {k : Nat} (ok : s.Ok k) : s.close.way.length < s.way.length ∨ s.close = s := by
  unfold Wk.close
  split
  · left; simp only [List.length_dropLast]; omega
  · right; rfl
theorem one_item {fr : Addr} {code : Value} {H1 : H} {a b c d e : Addr} {s : Wk} {k : Nat} {x : Int} {cx : CV} {Q : CF → G → H → Prop} (B : Base (hB.deep fr) mg mb f) (hR : Room (hB.deep fr) 0 A) (W : WkSt Hc H1 Γ a b c d e s) (ok : s.Ok k) (hk : k ≤ 1000) (hcx : intOf cx = some x) (gx : Γ "x" = some cx)
    (h : ∀ Γ2 H2, WkSt Hc H2 Γ2 a b c d e (s.item x) → Q .next Γ2 H2) : Ex prog w (hB.deep fr) A (kEnv fr f code) (execs kBody (kEnv fr f code)) Γ H1 Q := by
  have hml : mg "len" = none := B.free _ (by decide +kernel) (by decide +kernel)
  have hmr : mg "range" = none := B.free _ (by decide +kernel) (by decide +kernel)
  have tot := ok.tot
  have hlen := ok.len
  refine Ex.cons (Ex.assign (Ev.binop (Ev.binop (Ev.name gx (.inl (by rfl)) (Ev.int (Op2.divi (a := x) (b := 12) (by decide) (PyProof.noPylong_small (by decide)) (Ev.int (Op2.modi (b := 512) (by decide) ?_)) hcx rfl))))))
  rw [rN_eq]
  have W1 := W.put "weight" (.i ((rN x : Nat) : Int)) (by decide)
  have gx1 : (put Γ "weight" (.i ((rN x : Nat) : Int))) "x" = some cx := by rw [put_ne _ _ (by decide)]; exact gx
  have gw1 : (put Γ "weight" (.i ((rN x : Nat) : Int))) "weight" = some (.i ((rN x : Nat) : Int)) := put_self ..
  generalize put Γ "weight" (.i ((rN x : Nat) : Int)) = Γ1 at *
  have cut : ∀ (v : Nat), v = wt x → WkSt Hc H1 (Mine.put Γ1 "weight" (.i (v : Int))) a b c d e s ∧ (Mine.put Γ1 "weight" (.i (v : Int))) "x" = some cx ∧ (Mine.put Γ1 "weight" (.i (v : Int))) "weight" = some (.i ((wt x : Nat) : Int)) := fun v hv =>
    ⟨W1.put _ _ (by decide), by rw [put_ne _ _ (by decide)]; exact gx1, by rw [put_self, hv]⟩
  refine Ex.cons (Ex.mono (Q := fun fl Γ' H' => fl = .next ∧ H' = H1 ∧ WkSt Hc H1 Γ' a b c d e s ∧ Γ' "x" = some cx ∧ Γ' "weight" = some (.i ((wt x : Nat) : Int))) ?_ ?_)
  · refine Ex.if (Tr.compare (Ev.binop (Ev.name gx1 (.inl (by rfl)) (Ev.int (Op2.modi (a := x) (b := 3) (by decide) (Ev.int (Op2.eqi ⟨_, rfl, ?_⟩)) hcx rfl)))))
    by_cases q : x.fmod 3 = 0
    · rw [show (x.fmod 3 == 0) = true by simp [q]]
      refine (?_ : Ex _ _ _ _ _ _ _ _ _)
      refine Ex.one (Ex.assign (Ev.binop (Ev.binop (Ev.int (Ev.name gw1 (.inl (by rfl)) (Op2.mulN (a := 64) (by decide) (Ev.int (Op2.addN (b := 28) ?_))))))))
      exact ⟨rfl, rfl, cut _ (by unfold wt; rw [if_pos q])⟩
    · rw [show (x.fmod 3 == 0) = false by simp [q]]
      refine (?_ : Ex _ _ _ _ _ _ _ _ _)
      refine Ex.one (Ex.if (Tr.compare (Ev.binop (Ev.name gx1 (.inl (by rfl)) (Ev.int (Op2.modi (a := x) (b := 3) (by decide) (Ev.int (Op2.eqi ⟨_, rfl, ?_⟩)) hcx rfl))))))
      by_cases q1 : x.fmod 3 = 1
      · rw [show (x.fmod 3 == 1) = true by simp [q1]]
        refine (?_ : Ex _ _ _ _ _ _ _ _ _)
        refine Ex.one (Ex.assign (Ev.binop (Ev.binop (Ev.int (Ev.name gw1 (.inl (by rfl)) (Op2.mulN (a := 4096) (by decide) (Ev.int (Op2.addN (b := 1820) ?_))))))))
        exact ⟨rfl, rfl, cut _ (by unfold wt; rw [if_neg q, if_pos q1])⟩
      · rw [show (x.fmod 3 == 1) = false by simp [q1]]
        refine (?_ : Ex _ _ _ _ _ _ _ _ _)
        refine Ex.nil ⟨rfl, rfl, W1, gx1, ?_⟩
        rw [gw1]; unfold wt; rw [if_neg q, if_neg q1]
  rintro fl Γ2 H2 ⟨rfl, rfl, W2, gx2, gw2⟩
  refine (?_ : Ex _ _ _ _ _ _ _ _ _)
  have hpos : 0 < s.way.length := List.length_pos_iff.mpr ok.ne
  refine Ex.cons (Ex.expr (Ev.append (Ev.name W2.gc (.inl (by rfl)) ⟨c, _, rfl, W2.hc, ?_⟩)))
  refine Ev.subscript (Ev.name W2.ge (.inl (by rfl)) (Ev.neg (Ev.int ⟨1, rfl, e, _, rfl, W2.he, ?_⟩)))
  refine Op2.itemNeg W2.he (by decide) (by decide) (by simp [cis]; (clear hk h tot hlen cut; omega)) (last_cis ok.ne) ⟨_, W2.hc, by simp [cis, ok.parents]; (clear h tot cut hpos; omega), ?_⟩ rfl
  have W3 := W2.setC (s.parents ++ [s.way.getLastD 0])
  rw [cis_snoc] at W3
  refine (?_ : Ex _ _ _ _ _ _ _ _ _)
  generalize upd H2 c _ = H3 at *
  refine Ex.cons (Ex.expr (Ev.append (Ev.name W3.gd (.inl (by rfl)) ⟨d, _, rfl, W3.hd, Ev.name gw2 (.inl (by rfl)) ⟨_, W3.hd, by simp [cis]; (clear h tot cut hpos; omega), ?_⟩⟩)))
  have W4 := W3.setD (s.weights ++ [wt x])
  rw [cis_snoc] at W4
  refine (?_ : Ex _ _ _ _ _ _ _ _ _)
  generalize upd H3 d _ = H4 at *
  refine Ex.cons (Ex.expr (Ev.append (Ev.name W4.ge (.inl (by rfl)) ⟨e, _, rfl, W4.he, ?_⟩)))
  refine Ev.binop (Ev.callB (id := "len") B.toGl hml (by kernel_rfl) (EvL.cons (Ev.name W4.gd (.inl (by rfl)) (EvL.nil (Bi.len W4.hd (by simp [cis]; (clear h tot cut hpos; omega)) (Ev.int (Op2.subi (b := 1) ?_)))))))
  have el : ((cis (s.weights ++ [wt x])).length : Int) - 1 = ((s.weights.length : Nat) : Int) := by simp [cis]
  rw [el]
  refine ⟨_, W4.he, by simp [cis]; (clear h cut hpos; omega), ?_⟩
  have W5 := W4.setE (s.way ++ [s.weights.length])
  rw [cis_snoc] at W5
  refine (?_ : Ex _ _ _ _ _ _ _ _ _)
  generalize upd H4 e _ = H5 at *
  refine Ex.cons (Ex.expr (Ev.append (Ev.name W5.ga (.inl (by rfl)) ⟨a, _, rfl, W5.ha, ?_⟩)))
  refine Ev.binop (Ev.binop (Ev.int (Ev.name gw2 (.inl (by rfl)) (Op2.mulN (a := 64) (by decide) (Ev.int (Op2.addN (b := 40) ⟨_, W5.ha, by simp [cis]; (clear h cut; omega), ?_⟩))))))
  have W6 := W5.setA (s.steps ++ [64 * wt x + 40])
  rw [cis_snoc] at W6
  refine (?_ : Ex _ _ _ _ _ _ _ _ _)
  generalize upd H5 a _ = H6 at *
  refine Ex.cons (Ex.expr (Ev.append (Ev.name W6.gb (.inl (by rfl)) ⟨b, _, rfl, W6.hb, ?_⟩)))
  refine Ev.callB (id := "len") B.toGl hml (by kernel_rfl) (EvL.cons (Ev.name W6.ga (.inl (by rfl)) (EvL.nil (Bi.len W6.ha (by simp [cis]; (clear h cut; omega)) ⟨_, W6.hb, by simp [cis, ok.firsts]; (clear h tot cut hpos; omega), ?_⟩))))
  have W7 := W6.setB (s.firsts ++ [s.steps.length + 1])
  rw [cis_snoc] at W7
  have el2 : ((cis { s with parents := s.parents ++ [s.way.getLastD 0], weights := s.weights ++ [wt x], way := s.way ++ [s.weights.length], steps := s.steps ++ [64 * wt x + 40] }.steps).length : Int) = ((s.steps.length + 1 : Nat) : Int) := by simp [cis]
  rw [el2]
  refine (?_ : Ex _ _ _ _ _ _ _ _ _)
  generalize upd H6 b _ = H7 at *
  have ok7 := ok.opens x
  have e7 : s.opens x = { s with parents := s.parents ++ [s.way.getLastD 0], weights := s.weights ++ [wt x], way := s.way ++ [s.weights.length], steps := s.steps ++ [64 * wt x + 40], firsts := s.firsts ++ [s.steps.length + 1] } := rfl
  rw [← e7] at W7
  generalize hs7 : s.opens x = s7 at *
  refine Ex.one (Ex.for (hR.less (by decide)) (It.range1 B.toGl hmr (Ev.binop (Ev.binop (Ev.name gx2 (.inl (by rfl)) (Ev.int (Op2.divi (a := x) (b := 3) (by decide) (PyProof.noPylong_small (by decide)) (Ev.int (Op2.modi (b := 4) (by decide) ⟨_, rfl, ?_, ?_, ?_⟩)) hcx rfl)))))))
  · rw [turns_eq]; (clear hk h tot hlen cut hpos el el2; omega)
  · rw [turns_eq]; have := turns_lt x; (clear hk h tot hlen cut hpos el el2; omega)
  rw [turns_eq, Int.toNat_natCast]
  refine ⟨fun i Γ' H' => WkSt Hc H' Γ' a b c d e (Wk.closes i s7), W7, ?_, ?_⟩
  · rintro i xi Γ' H' - - W8
    have ok8 := ok7.closes i
    have W9 := W8.put "turn" xi (by decide)
    generalize put Γ' "turn" xi = Γ9 at *
    refine Ex.one (Ex.if (Tr.compare (Ev.callB (id := "len") B.toGl hml (by kernel_rfl) (EvL.cons (Ev.name W9.ge (.inl (by rfl)) (EvL.nil (Bi.len W9.he (by have := ok8.tot; simp [cis]; (clear h tot cut hpos el2; omega)) (Ev.int (Op2.gti (b := 1) ⟨_, rfl, ?_⟩)))))))))
    by_cases q : 1 < (Wk.closes i s7).way.length
    · rw [decide_eq_true (by simp [cis]; (clear hk h tot hlen cut hpos el el2; omega))]
      refine (?_ : Ex _ _ _ _ _ _ _ _ _)
      exact Ex.one (close_run W9 ok8 (by (clear h tot cut hpos el2 q; omega)) q fun H2 W => ⟨trivial, W⟩)
    · rw [decide_eq_false (by simp [cis]; (clear hk h tot hlen cut hpos el el2; omega))]
      refine (?_ : Ex _ _ _ _ _ _ _ _ _)
      refine Ex.nil ⟨trivial, ?_⟩
      have e8 : Wk.closes (i + 1) s7 = Wk.closes i s7 := by show (Wk.closes i s7).close = _; unfold Wk.close; rw [if_neg q]
      show WkSt _ _ _ _ _ _ _ _ (Wk.closes (i + 1) s7)
      rw [e8]; exact W9
  · rintro Γ' H' W8
    have e : (Src.range 0 (turns x)).items.length = turns x := by simp [Src.items]
    rw [e] at W8
    refine h _ _ ?_
    unfold Wk.item
    rw [hs7]; exact W8
end
end Mine

set_option maxRecDepth 100000
set_option maxHeartbeats 2000000
namespace Mine
section
variable {prog : Program} {w : World} {hB : BB} {A : Around} {env : Env} {Γ : G} {Hc : H} {mg mb : Str → Option Value} {f : Nat → Addr}
theorem isInts_get : ∀ {xs : List CV} {ns : List Int}, IsInts xs ns → ∀ {i : Nat} {x : CV}, xs[i]? = some x → ∃ n, ns[i]? = some n ∧ intOf x = some n
  | [], _, _, _, _, h => by simp at h
  | y :: ys, [], h, _, _, _ => by cases h
  | y :: ys, n :: ns, h, 0, x, e => by
    simp only [IsInts, List.map_cons, List.cons.injEq] at h
    simp at e; subst e
    exact ⟨n, rfl, h.1⟩
  | y :: ys, n :: ns, h, i + 1, x, e => by
    simp only [IsInts, List.map_cons, List.cons.injEq] at h
    simpa using isInts_get (xs := ys) (ns := ns) h.2 (by simpa using e)
theorem walk_spec (B : Base hB mg mb f) {l : Addr} {xs : List CV} {ns : List Int} {P : CV → H → Prop} (hl : Hc l = some (.list xs)) (hi : IsInts xs ns) (hn : ns.length ≤ 100)
    (h : ∀ T a b c d H', Ext Hc H' → Hc T = none → (∀ x ∈ [a, b, c, d], Hc x = none) → [a, b, c, d].Nodup → H' T = some (.tup [.r a, .r b, .r c, .r d]) → H' a = some (.list (cis (walkN ns).steps)) → H' b = some (.list (cis (walkN ns).firsts)) → H' c = some (.list (cis (walkN ns).parents)) → H' d = some (.list (cis (walkN ns).weights)) → P (.r T) H') :
    Fn prog w hB 1 (f 13) [.r l] Hc P := by
  refine Fn.plain B.toGl (B.fn 13 (by decide)) ["items"] (fun A code fr hR => ?_) (bind1 fun _ _ _ _ => rfl) (by rfl)
  have B' := B.deep fr
  have hml : mg "len" = none := B.free _ (by decide +kernel) (by decide +kernel)
  have z : CV.i ((0 : Nat) : Int) = CV.i 0 := rfl
  have c0 : ([CV.i 0] : List CV) = cis [0] := rfl
  refine Ex.cons (Ex.assign (Ev.list (EvL.nil ⟨by simp, fun a ha => ?_⟩)))
  refine Ex.cons (Ex.assign (Ev.list (EvL.cons (Ev.int (EvL.nil ⟨by simp, fun b hb => ?_⟩)))))
  refine Ex.cons (Ex.assign (Ev.list (EvL.cons (Ev.int (EvL.nil ⟨by simp, fun c hc => ?_⟩)))))
  refine Ex.cons (Ex.assign (Ev.list (EvL.cons (Ev.int (EvL.nil ⟨by simp, fun d hd => ?_⟩)))))
  refine Ex.cons (Ex.assign (Ev.list (EvL.cons (Ev.int (EvL.nil ⟨by simp, fun e he => ?_⟩)))))
  rw [c0] at hc hd he ⊢
  have nab : b ≠ a := by rintro rfl; rw [upd_self] at hb; cases hb
  have nac : c ≠ b := by rintro rfl; rw [upd_self] at hc; cases hc
  have nad : d ≠ c := by rintro rfl; rw [upd_self] at hd; cases hd
  have nae : e ≠ d := by rintro rfl; rw [upd_self] at he; cases he
  rw [upd_ne _ _ nab] at hb
  rw [upd_ne _ _ nac] at hc
  rw [upd_ne _ _ nad] at hd
  rw [upd_ne _ _ nae] at he
  have nca : c ≠ a := by rintro rfl; rw [upd_self] at hc; cases hc
  have ndb : d ≠ b := by rintro rfl; rw [upd_self] at hd; cases hd
  have nec : e ≠ c := by rintro rfl; rw [upd_self] at he; cases he
  rw [upd_ne _ _ nca] at hc
  rw [upd_ne _ _ ndb] at hd
  rw [upd_ne _ _ nec] at he
  have nda : d ≠ a := by rintro rfl; rw [upd_self] at hd; cases hd
  have neb : e ≠ b := by rintro rfl; rw [upd_self] at he; cases he
  rw [upd_ne _ _ nda] at hd
  rw [upd_ne _ _ neb] at he
  have nea : e ≠ a := by rintro rfl; rw [upd_self] at he; cases he
  rw [upd_ne _ _ nea] at he
  have W0 : WkSt Hc (upd (upd (upd (upd (upd Hc a (.list [])) b (.list (cis [0]))) c (.list (cis [0]))) d (.list (cis [0]))) e (.list (cis [0]))) (put (put (put (put (put (Binds ["items"] [.r l]) "steps" (.r a)) "firsts" (.r b)) "parents" (.r c)) "weights" (.r d)) "way" (.r e)) a b c d e wk0 := by
    refine ⟨by rfl, by rfl, by rfl, by rfl, by rfl, ?_, ?_, ?_, ?_, upd_self .., ?_, ?_, ?_⟩
    · rw [upd_ne _ _ nea.symm, upd_ne _ _ nda.symm, upd_ne _ _ nca.symm, upd_ne _ _ nab.symm, upd_self]; rfl
    · rw [upd_ne _ _ neb.symm, upd_ne _ _ ndb.symm, upd_ne _ _ nac.symm, upd_self]; rfl
    · rw [upd_ne _ _ nec.symm, upd_ne _ _ nad.symm, upd_self]; rfl
    · rw [upd_ne _ _ nae.symm, upd_self]; rfl
    · simp only [List.nodup_cons, List.mem_cons, List.not_mem_nil, or_false, not_or, List.nodup_nil, and_true, not_false_eq_true]
      exact ⟨⟨nab.symm, nca.symm, nda.symm, nea.symm⟩, ⟨nac.symm, ndb.symm, neb.symm⟩, ⟨nad.symm, nec.symm⟩, nae.symm⟩
    · intro x hx
      simp only [List.mem_cons, List.not_mem_nil, or_false] at hx
      rcases hx with rfl | rfl | rfl | rfl | rfl <;> assumption
    · exact (((((Ext.refl Hc).upd ha _).upd hb _).upd hc _).upd hd _).upd he _
  have gi : (put (put (put (put (put (Binds ["items"] [.r l]) "steps" (.r a)) "firsts" (.r b)) "parents" (.r c)) "weights" (.r d)) "way" (.r e)) "items" = some (.r l) := by rfl
  generalize (put (put (put (put (put (Binds ["items"] [.r l]) "steps" (.r a)) "firsts" (.r b)) "parents" (.r c)) "weights" (.r d)) "way" (.r e)) = Γ0 at *
  have hl0 := W0.ext _ _ hl
  generalize (upd (upd (upd (upd (upd Hc a (.list [])) b (.list (cis [0]))) c (.list (cis [0]))) d (.list (cis [0]))) e (.list (cis [0]))) = H0 at *
  refine Ex.cons (Ex.for (hR.less (by decide)) (It.list (Ev.name gi (.inl (by rfl)) ⟨l, _, rfl, hl0, ?_⟩)))
  have hxl := hi.len
  refine ⟨fun i Γ' H' => WkSt Hc H' Γ' a b c d e ((ns.take i).foldl Wk.item wk0), W0, ?_, ?_⟩
  · rintro i xi Γ' H' hx hok W1
    obtain ⟨n, hn1, hn2⟩ := isInts_get hi (i := i) (x := xi) hx
    have hil : i < ns.length := (List.getElem?_eq_some_iff.mp hn1).1
    have ok1 : Wk.Ok i ((ns.take i).foldl Wk.item wk0) := by
      have := Wk.Ok.items (ns.take i) Wk.Ok.start
      rw [List.length_take, Nat.min_eq_left (by (clear hn h nab nac nad nae nca ndb nec nda neb nea; omega)), Nat.zero_add] at this
      exact this
    refine one_item (x := n) (cx := xi) B' hR (W1.put "x" xi (by decide)) ok1 (by (clear h nab nac nad nae nca ndb nec nda neb nea; omega)) hn2 (put_self ..) fun Γ2 H2 W2 => ?_
    refine ⟨W2.ext _ _ hl, ?_⟩
    show WkSt _ _ _ _ _ _ _ _ ((ns.take (i + 1)).foldl Wk.item wk0)
    rw [List.take_add_one, hn1]
    simp only [Option.toList, List.foldl_append, List.foldl_cons, List.foldl_nil]
    exact W2
  rintro Γ1 H1 W1
  have eN : ns.take (Src.list l xs).items.length = ns := by simp [Src.items, hxl]
  rw [eN] at W1
  have ok1 : Wk.Ok ns.length (ns.foldl Wk.item wk0) := by
    have := Wk.Ok.items ns Wk.Ok.start
    rwa [Nat.zero_add] at this
  refine Ex.cons (Ex.while (fun n Γ' H' => ∃ s, s.Ok ns.length ∧ n = s.way.length ∧ WkSt Hc H' Γ' a b c d e s ∧ Wk.closes n s = walkN ns) _ ⟨_, ok1, rfl, W1, rfl⟩ ?_)
  rintro n Γ' H' ⟨s, ok, rfl, W, hs⟩
  refine Tr.compare (Ev.callB (id := "len") B'.toGl hml (by kernel_rfl) (EvL.cons (Ev.name W.ge (.inl (by rfl)) (EvL.nil (Bi.len W.he (by have := ok.tot; simp [cis]; (clear h nab nac nad nae nca ndb nec nda neb nea; omega)) (Ev.int (Op2.gti (b := 1) ⟨_, rfl, ?_⟩)))))))
  by_cases q : 1 < s.way.length
  · rw [decide_eq_true (by simp [cis]; (clear hn h nab nac nad nae nca ndb nec nda neb nea hxl; omega))]
    refine (?_ : Ex _ _ _ _ _ _ _ _ _)
    refine Ex.one (close_run W ok (by (clear h nab nac nad nae nca ndb nec nda neb nea q; omega)) q fun H2 W2 => ?_)
    have hlt : s.close.way.length + 1 = s.way.length := by unfold Wk.close; rw [if_pos q]; simp only [List.length_dropLast]; (clear hn h nab nac nad nae nca ndb nec nda neb nea hxl; omega)
    refine ⟨s.close.way.length, by (clear hn h nab nac nad nae nca ndb nec nda neb nea hxl q; omega), s.close, ok.close, rfl, W2, ?_⟩
    rw [← hs, ← hlt, Wk.closes_in]
  · rw [decide_eq_false (by simp [cis]; (clear hn h nab nac nad nae nca ndb nec nda neb nea hxl; omega))]
    refine (?_ : Ex _ _ _ _ _ _ _ _ _)
    have hcl : ∀ m, Wk.closes m s = s := by
      intro m
      induction m with
      | zero => rfl
      | succ m ih => show (Wk.closes m s).close = s; rw [ih]; unfold Wk.close; rw [if_neg q]
    rw [hcl] at hs
    subst hs
    refine Ex.one (Ex.ret (Ev.tuple (EvL.cons (Ev.name W.ga (.inl (by rfl)) (EvL.cons (Ev.name W.gb (.inl (by rfl)) (EvL.cons (Ev.name W.gc (.inl (by rfl)) (EvL.cons (Ev.name W.gd (.inl (by rfl)) (EvL.nil ⟨by simp, fun T hT => ?_⟩)))))))))))
    have keep : ∀ {y : Addr} {co : CO}, H' y = some co → (upd H' T (.tup [.r a, .r b, .r c, .r d])) y = some co := fun hy => upd_new hy hT
    refine h T a b c d _ (W.ext.new hT _) (W.ext.off hT) (fun x hx => W.none x ?_) ?_ (upd_self ..) (keep W.ha) (keep W.hb) (keep W.hc) (keep W.hd)
    · simp only [List.mem_cons, List.not_mem_nil, or_false] at hx ⊢
      rcases hx with h | h | h | h <;> simp [h]
    · exact W.nd.sublist (by simp)
end
end Mine

set_option maxRecDepth 100000
set_option maxHeartbeats 2000000
namespace Mine
theorem join_ones : ∀ L : List Nat, Txt.join "" (L.map one) = ⟨L.toArray⟩ := by
  intro L
  show Builtin.Str.glued _ _ = _
  rw [StrLaws.glued_eq_join]
  induction L with
  | nil => rfl
  | cons a r ih =>
    cases r with
    | nil => rfl
    | cons b r =>
      show (one a ++ "" ++ Str.join "" ((b :: r).map one) : Str) = _
      rw [ih]
      show (⟨(#[a] ++ (#[] : Array Nat)) ++ (b :: r).toArray⟩ : Str) = _
      congr 1
      apply Array.ext'
      simp
theorem joinOk_ones {L : List Nat} (h : L.length ≤ 10000) : JoinOk "" (L.map one) = true := by
  refine joinOk_of_weight ?_ (by decide)
  have e : ((L.map one).map (·.length)).sum = L.length := by
    clear h
    induction L with
    | nil => rfl
    | cons a r ih => simp only [List.map_cons, List.sum_cons, ih, List.length_cons]; show 1 + _ = _; (clear ih; omega)
  rw [e, List.length_map]; omega
/-- what the table is of -/
def segN (steps firsts : List Nat) (u v : Nat) : List Nat := (steps.drop (firsts.getD u 0)).take (firsts.getD v 0 - firsts.getD u 0)
def wayN (ps : List Nat) (u v : Nat) : List Nat := (lineN ps u ++ lineN ps v).filter fun e => decide (e ∈ lineN ps u) != decide (e ∈ lineN ps v)
structure Pair (steps firsts ps ws : List Nat) (u v : Nat) : Prop where
  le : firsts.getD u 0 ≤ firsts.getD v 0
  le2 : firsts.getD v 0 ≤ steps.length
  small : (flat (segN steps firsts u v)).length ≤ 10000
  quote : 34 ∉ flat (segN steps firsts u v)
  ascii : ∀ o ∈ flat (segN steps firsts u v), o < 128
  esc : endEsc false (flat (segN steps firsts u v)) = false
  chk : chkY 0 (genY false (flat (segN steps firsts u v))) = ((wayN ps u v).filter fun e => bareN (ws.getD e 0)).isEmpty
  far : farN (segN steps firsts u v) = ((wayN ps u v).map fun e => ws.getD e 0).sum
  lu : (lineN ps u).length ≤ 1000
  lv : (lineN ps v).length ≤ 1000
  way : ∀ e ∈ wayN ps u v, e < ws.length
structure TLay (H0 : H) (steps firsts ps ws : List Nat) (a b c d O L : Addr) (os ls : List Addr) : Prop where
  ha : H0 a = some (.list (cis steps))
  hb : H0 b = some (.list (cis firsts))
  hc : H0 c = some (.list (cis ps))
  hd : H0 d = some (.list (cis ws))
  hO : H0 O = some (.list (os.map CV.r))
  ol : os.length = steps.length
  ho : ∀ i (h : i < os.length), H0 os[i] = some (.list (cis (octs (steps.getD i 0))))
  hL : H0 L = some (.list (ls.map CV.r))
  ll : ls.length = ps.length
  hl : ∀ i (h : i < ls.length), H0 ls[i] = some (.list (cis (lineN ps i)))
  n1 : steps.length ≤ 1000
  n2 : firsts.length = ps.length
  n3 : ws.length = ps.length
  n4 : ps.length ≤ 100
  n5 : ∀ s ∈ steps, s < 2 ^ 60
structure TSt (H0 H' : H) (Γ : G) (a b d O L R : Addr) (as : List Addr) (n : Nat) (M : Nat → Nat → Int) : Prop where
  gsteps : Γ "steps" = some (.r a)
  gfirsts : Γ "firsts" = some (.r b)
  gweights : Γ "weights" = some (.r d)
  goct : Γ "octets" = some (.r O)
  glines : Γ "lines" = some (.r L)
  gtable : Γ "table" = some (.r R)
  ext : Ext H0 H'
  mat : Mat H' R as n M
  hR : H0 R = none
  has : ∀ x ∈ as, H0 x = none
theorem TSt.put {H0 H' : H} {Γ : G} {a b d O L R : Addr} {as : List Addr} {n : Nat} {M : Nat → Nat → Int} (t : TSt H0 H' Γ a b d O L R as n M) (x : Str) (v : CV) (h : x ≠ "steps" ∧ x ≠ "firsts" ∧ x ≠ "weights" ∧ x ≠ "octets" ∧ x ≠ "lines" ∧ x ≠ "table") : TSt H0 H' (Mine.put Γ x v) a b d O L R as n M := by
  obtain ⟨h1, h2, h3, h4, h5, h6⟩ := h
  exact ⟨by rw [put_ne _ _ (Ne.symm h1)]; exact t.gsteps, by rw [put_ne _ _ (Ne.symm h2)]; exact t.gfirsts, by rw [put_ne _ _ (Ne.symm h3)]; exact t.gweights, by rw [put_ne _ _ (Ne.symm h4)]; exact t.goct, by rw [put_ne _ _ (Ne.symm h5)]; exact t.glines, by rw [put_ne _ _ (Ne.symm h6)]; exact t.gtable, t.ext, t.mat, t.hR, t.has⟩
theorem TSt.heap {H0 H' H'' : H} {Γ : G} {a b d O L R : Addr} {as : List Addr} {n : Nat} {M : Nat → Nat → Int} (t : TSt H0 H' Γ a b d O L R as n M) (h : Ext H' H'') : TSt H0 H'' Γ a b d O L R as n M :=
  ⟨t.gsteps, t.gfirsts, t.gweights, t.goct, t.glines, t.gtable, t.ext.trans h, t.mat.ext h, t.hR, t.has⟩
theorem TSt.set {H0 H' : H} {Γ : G} {a b d O L R : Addr} {as : List Addr} {n : Nat} {M : Nat → Nat → Int} (t : TSt H0 H' Γ a b d O L R as n M) {i j : Nat} {y : Addr} (h : i < n) (ha : as[i]? = some y) (v : Int) : TSt H0 (upd H' y (.list ((rowL n (M i)).set j (.i v)))) Γ a b d O L R as n (setM M i j v) :=
  ⟨t.gsteps, t.gfirsts, t.gweights, t.goct, t.glines, t.gtable, t.ext.upd (t.has y (List.mem_of_getElem? ha)) _, t.mat.set h ha v, t.hR, t.has⟩
theorem filter_snoc (p : Nat → Bool) (L : List Nat) (e : Nat) : (L ++ [e]).filter p = L.filter p ++ (if p e = true then [e] else []) := by
  rw [List.filter_append]; cases h : p e <;> simp [h]
theorem any_cis (L : List Nat) (e : Nat) : (L.map Int.ofNat).any (· == (e : Int)) = decide (e ∈ L) := by
  induction L with
  | nil => rfl
  | cons a r ih =>
    rw [List.map_cons, List.any_cons, ih]
    by_cases q : e = a
    · subst q; simp
    · have q' : (Int.ofNat a == (e : Int)) = false := by
        rw [beq_eq_false_iff_ne]
        intro z
        exact q (Int.ofNat.inj z).symm
      rw [q']; simp [q]
theorem cis_item {l : Addr} {L : List Nat} {i : Nat} {xi : CV} (hx : (Src.list l (cis L)).items[i]? = some xi) : i < L.length ∧ xi = .i ((L.getD i 0 : Nat) : Int) := by
  have hi : i < L.length := by
    rcases Nat.lt_or_ge i L.length with h | h
    · exact h
    · have : (Src.list l (cis L)).items[i]? = none := by simp [Src.items, cis, h]
      rw [this] at hx; cases hx
  refine ⟨hi, ?_⟩
  have := cis_get hi
  rw [Int.toNat_natCast] at this
  have hx' : (cis L)[i]? = some xi := hx
  rw [this] at hx'
  exact (Option.some.inj hx').symm
theorem take_succ_getD {L : List Nat} {i : Nat} (h : i < L.length) : L.take (i + 1) = L.take i ++ [L.getD i 0] := by
  rw [List.take_add_one, List.getElem?_eq_getElem h, List.getD_eq_getElem?_getD, List.getElem?_eq_getElem h]; rfl
theorem getD_mem {L : List Nat} {i : Nat} (h : i < L.length) : L.getD i 0 ∈ L := by
  rw [List.getD_eq_getElem?_getD, List.getElem?_eq_getElem h]; exact List.getElem_mem h
theorem cis_drop (xs : List Nat) (k : Nat) : (cis xs).drop k = cis (xs.drop k) := (List.map_drop ..).symm
theorem cis_take (xs : List Nat) (k : Nat) : (cis xs).take k = cis (xs.take k) := (List.map_take ..).symm
def tBody : List Stmt := match (rec 19).body with
  | [_, _, _, .For _ _ [.For _ _ b _ _] _ _, _] => b
  | _ => []
abbrev tEnv (fr : Addr) (f : Nat → Addr) (code : Value) : Env := envOfC (rec 19).name (rec 19).scope fr (f 19) code
section
variable {prog : Program} {w : World} {hB : BB} {A : Around} {env : Env} {Γ : G} {Hc : H} {mg mb : Str → Option Value} {f : Nat → Addr}
theorem pair_run (B : Base hB mg mb f) {fr : Addr} {code : Value} (hR : Room (hB.deep fr) 2 A) {H0 H1 : H} {steps firsts ps ws : List Nat} {a b c d O L R : Addr} {os ls as : List Addr} {M : Nat → Nat → Int} {u v : Nat} {Q : CF → G → H → Prop}
    (Y : TLay H0 steps firsts ps ws a b c d O L os ls) (T : TSt H0 H1 Γ a b d O L R as ps.length M) (hu : u < v) (hv : v < ps.length) (gu : Γ "u" = some (.i (u : Int))) (gv : Γ "v" = some (.i (v : Int))) (K : Pair steps firsts ps ws u v)
    (h : ∀ Γ' H', TSt H0 H' Γ' a b d O L R as ps.length (setM (setM M u v (farN (segN steps firsts u v) : Nat)) v u (farN (segN steps firsts u v) : Nat)) → Γ' "v" = some (.i (v : Int)) → Q .next Γ' H') :
    Ex prog w (hB.deep fr) A (tEnv fr f code) (execs tBody (tEnv fr f code)) Γ H1 Q := by
  have B' := B.deep fr
  have hms : mg "sum" = none := B.free _ (by decide +kernel) (by decide +kernel)
  have hmc : mg "chr" = none := B.free _ (by decide +kernel) (by decide +kernel)
  have hun : u < ps.length := by (clear h; omega)
  have hb1 := T.ext _ _ Y.hb
  have hO1 := T.ext _ _ Y.hO
  have n2 := Y.n2
  have n4 := Y.n4
  have n1 := Y.n1
  have n3 := Y.n3
  have ol := Y.ol
  have le := K.le
  have le2 := K.le2
  have hsm := K.small
  have hquo := K.quote
  have hasc := K.ascii
  have hesc := K.esc
  have hchk := K.chk
  have hfar := K.far
  have hlu := K.lu
  have hlv := K.lv
  have hway := K.way
  have hn5 : ∀ x ∈ segN steps firsts u v, x < 2 ^ 60 := fun x hx => Y.n5 x (List.mem_of_mem_drop (List.mem_of_mem_take hx))
  clear K
  refine Ex.cons (Ex.assignComp2 (hR.less (by decide)) ⟨rfl, rfl, by decide, by decide, (by intro p hp; cases hp), by rfl, by rfl⟩ (It.list (Ev.slice (Ev.name T.goct (.inl (by rfl)) (EvO.val (Ev.subscript (Ev.name T.gfirsts (.inl (by rfl)) (Ev.name gu (.inr (by rfl)) ⟨b, _, rfl, hb1, Op2.item hb1 (by (clear hu hv h hun n2 n4 n1 n3 ol le le2 hsm hquo hasc hfar hlu hlv hway hn5; omega)) (by (clear h hun n1 ol le le2 hsm hquo hasc hfar hlu hlv hway hn5; omega)) (cis_get (by (clear hu hv h n4 n1 ol le le2 hsm hquo hasc hfar hlu hlv hway hn5; omega))) ⟨_, rfl, ?_⟩ rfl⟩))))))))
  refine EvO.val (Ev.subscript (Ev.name T.gfirsts (.inl (by rfl)) (Ev.name gv (.inr (by rfl)) ⟨b, _, rfl, hb1, Op2.item hb1 (by (clear hu hv h hun n2 n4 n1 n3 ol le le2 hsm hquo hasc hfar hlu hlv hway hn5; omega)) (by (clear hu h hun n1 ol le le2 hsm hquo hasc hfar hlu hlv hway hn5; omega)) (cis_get (by (clear hu h hun n4 n1 ol le le2 hsm hquo hasc hfar hlu hlv hway hn5; omega))) ⟨_, rfl, ?_⟩ rfl⟩)))
  refine ⟨O, _, _, rfl, hO1, by rw [List.length_map]; (clear hu hv h hun n2 n4 n3 le le2 hsm hquo hasc hfar hlu hlv hway hn5; omega), pick_run (by (clear hu hv h hun n2 n4 n1 n3 ol le le2 hsm hquo hasc hfar hlu hlv hway hn5; omega)) (by (clear hu hv h hun n2 n4 n1 n3 ol le2 hsm hquo hasc hfar hlu hlv hway hn5; omega)) (by rw [List.length_map]; (clear hu hv h hun n2 n4 n1 n3 le hsm hquo hasc hfar hlu hlv hway hn5; omega)), fun sl hsl => ?_⟩
  refine ⟨sl, _, rfl, upd_self .., ?_⟩
  have hsl0 : H0 sl = none := T.ext.off hsl
  have segl : (segN steps firsts u v).length = firsts.getD v 0 - firsts.getD u 0 := by unfold segN; rw [List.length_take, List.length_drop]; (clear hu hv h hun n2 n4 n1 n3 hsm hquo hasc hfar hlu hlv hway hn5; omega)
  have segget : ∀ i, i < (segN steps firsts u v).length → (segN steps firsts u v).getD i 0 = steps.getD (firsts.getD u 0 + i) 0 := by
    intro i hi
    rw [segl] at hi
    unfold segN
    generalize firsts.getD u 0 = fu at *
    generalize firsts.getD v 0 = fv at *
    simp only [List.getD_eq_getElem?_getD]
    rw [List.getElem?_take, if_pos (by (clear hu hv h hun n2 n4 n1 n3 ol hsm hquo hasc hfar hlu hlv hway hn5 le2 le segl; omega)), List.getElem?_drop]
  have T1 := T.heap ((Ext.refl H1).new hsl (.list (((os.map CV.r).drop (firsts.getD u 0 : Int).toNat).take ((firsts.getD v 0 : Int).toNat - (firsts.getD u 0 : Int).toNat))))
  generalize upd H1 sl _ = H2 at T1 ⊢
  have hseg : ∀ i xi, (Src.list sl (((os.map CV.r).drop (firsts.getD u 0 : Int).toNat).take ((firsts.getD v 0 : Int).toNat - (firsts.getD u 0 : Int).toNat))).items[i]? = some xi → i < (segN steps firsts u v).length ∧ ∃ y, xi = .r y ∧ H0 y = some (.list (cis (octs ((segN steps firsts u v).getD i 0)))) := by
    intro i xi hx
    simp only [Src.items, Int.toNat_natCast, List.getElem?_take, List.getElem?_drop, List.getElem?_map] at hx
    split at hx
    · rename_i hi
      have hos : firsts.getD u 0 + i < os.length := by (clear hu hv h hun n2 n4 n1 n3 hsm hquo hasc hfar hlu hlv hway hn5 segl segget; omega)
      rw [List.getElem?_eq_getElem hos] at hx
      have hi' : i < (segN steps firsts u v).length := by (clear hu hv h hun n2 n4 n1 n3 ol le le2 hsm hquo hasc hfar hlu hlv hway hn5 segget; omega)
      refine ⟨hi', _, (Option.some.inj hx).symm, ?_⟩
      rw [segget i hi']
      exact Y.ho _ hos
    · cases hx
  generalize hsg : segN steps firsts u v = sg at *
  refine ⟨fun i ys H' => H' = H2 ∧ ys = cis (flat (sg.take i)), ⟨rfl, rfl⟩, ?_, ?_⟩
  · rintro Ca i xi ys H' hx hok ⟨rfl, rfl⟩
    obtain ⟨hi, y, rfl, hy⟩ := hseg i xi hx
    refine It.list (Ev.name (put_self ..) (.inl (by rfl)) ⟨y, _, rfl, T1.ext _ _ hy, ?_⟩)
    have hfl := flat_take_le sg i
    have hfs : flat (sg.take (i + 1)) = flat (sg.take i) ++ octs (sg.getD i 0) := by
      rw [take_succ_getD hi]; simp only [flat, List.flatMap_append, List.flatMap_cons, List.flatMap_nil, List.append_nil]
    have hle2 := flat_take_le sg (i + 1)
    rw [hfs, List.length_append] at hle2
    refine ⟨fun j zs H3 => H3 = H' ∧ zs = cis (flat (sg.take i) ++ (octs (sg.getD i 0)).take j), ⟨rfl, by simp⟩, ?_, ?_⟩
    · rintro j xj zs H3 hxj hok3 ⟨rfl, rfl⟩
      obtain ⟨hj, rfl⟩ := cis_item hxj
      refine ⟨?_, Ev.name (put_self ..) (.inl (by rfl)) ⟨hok3, rfl, ?_⟩⟩
      · have : ((octs (sg.getD i 0)).take j).length ≤ (octs (sg.getD i 0)).length := by rw [List.length_take]; (clear hu hv hun n2 n4 n1 n3 ol le le2 hlu hlv hway h hsm hquo hasc hfar hn5 segl segget hseg hi hfl hle2; omega)
        rw [cis, List.length_map, List.length_append]; (clear hu hv hun n2 n4 n1 n3 ol le le2 hlu hlv hway h hquo hasc hfar hn5 segl segget hseg hi hfl hj; omega)
      · rw [take_succ_getD hj, ← List.append_assoc, cis_snoc]
    · rintro zs H3 ⟨rfl, rfl⟩
      refine ⟨hok, rfl, ?_⟩
      have e : (octs (sg.getD i 0)).take (Src.list y (cis (octs (sg.getD i 0)))).items.length = octs (sg.getD i 0) := by simp [Src.items, cis]
      rw [e, hfs]
  rintro ys H' ⟨rfl, rfl⟩ pl hpl
  have eP : flat (sg.take (Src.list sl (((os.map CV.r).drop (firsts.getD u 0 : Int).toNat).take ((firsts.getD v 0 : Int).toNat - (firsts.getD u 0 : Int).toNat))).items.length) = flat sg := by
    rw [List.take_of_length_le]
    simp only [Src.items, Int.toNat_natCast, List.length_take, List.length_drop, List.length_map]
    (clear hu hv hun n2 n4 n1 n3 hlu hlv hway h hsm hquo hasc hfar hn5 segget hseg; omega)
  rw [eP]
  have T2 := (T1.heap ((Ext.refl H').new hpl (.list (cis (flat sg))))).put "piece" (.r pl) (by decide)
  have hp2 : (upd H' pl (.list (cis (flat sg)))) pl = some (.list (cis (flat sg))) := upd_self ..
  have gp2 : (put Γ "piece" (.r pl)) "piece" = some (.r pl) := put_self ..
  have gu2 : (put Γ "piece" (.r pl)) "u" = some (.i (u : Int)) := by rw [put_ne _ _ (by decide)]; exact gu
  have gv2 : (put Γ "piece" (.r pl)) "v" = some (.i (v : Int)) := by rw [put_ne _ _ (by decide)]; exact gv
  refine (?_ : Ex _ _ _ _ _ _ _ _ _)
  clear T T1 gu gv hb1 hO1
  generalize put Γ "piece" (.r pl) = Γ2 at *
  generalize upd H' pl _ = H3 at *
  have hL := Y.hL
  have ll := Y.ll
  have hul : u < ls.length := by (clear hu hv n4 n1 ol le le2 hlu hlv hway h hsm hquo hasc hfar hn5 segl segget hseg; omega)
  have hvl : v < ls.length := by (clear hu hun n4 n1 ol le le2 hlu hlv hway h hsm hquo hasc hfar hn5 segl segget hseg hul; omega)
  have hLu : (ls.map CV.r)[((u : Nat) : Int).toNat]? = some (.r ls[u]) := by rw [Int.toNat_natCast, List.getElem?_map, List.getElem?_eq_getElem hul]; rfl
  have hLv : (ls.map CV.r)[((v : Nat) : Int).toNat]? = some (.r ls[v]) := by rw [Int.toNat_natCast, List.getElem?_map, List.getElem?_eq_getElem hvl]; rfl
  have hLu0 := Y.hl u hul
  have hLv0 := Y.hl v hvl
  have hL2 := T2.ext _ _ hL
  -- the way
  refine Ex.cons (Ex.assignComp (hR.less (by decide)) ⟨rfl, rfl, by decide, by decide, (List.forall_mem_cons.mpr ⟨rfl, List.forall_mem_cons.mpr ⟨rfl, List.forall_mem_cons.mpr ⟨rfl, by intro p hp; cases hp⟩⟩⟩), by rfl, by rfl⟩
    (It.list (Ev.binop (Ev.subscript (Ev.name T2.glines (.inr (by rfl)) (Ev.name gu2 (.inr (by rfl)) ⟨L, _, rfl, hL2, Op2.item hL2 (by (clear hu hv hun n2 n4 n1 n3 ol le le2 hlu hlv hway h hsm hquo hasc hfar hn5 segl segget hseg ll; omega)) (by (clear hun n1 ol le le2 hlu hlv hway h hsm hquo hasc hfar hn5 segl segget hseg; omega)) hLu ?_ rfl⟩))))))
  refine Ev.subscript (Ev.name T2.glines (.inr (by rfl)) (Ev.name gv2 (.inr (by rfl)) ⟨L, _, rfl, hL2, Op2.item hL2 (by (clear hu hv hun n2 n4 n1 n3 ol le le2 hlu hlv hway h hsm hquo hasc hfar hn5 segl segget hseg ll; omega)) (by (clear hu hun n1 ol le le2 hlu hlv hway h hsm hquo hasc hfar hn5 segl segget hseg; omega)) hLv ?_ rfl⟩))
  refine Op2.addl (T2.ext _ _ hLu0) (T2.ext _ _ hLv0) (by simp only [cis, List.length_map]; (clear hu hv hun n2 n4 n1 n3 ol le le2 hway h hsm hquo hasc hfar hn5 segl segget hseg ll; omega)) fun sl2 hsl2 => ⟨sl2, _, rfl, upd_self .., ?_⟩
  have T3 := T2.heap ((Ext.refl H3).new hsl2 (.list (cis (lineN ps u) ++ cis (lineN ps v))))
  have hp3 := (Ext.refl H3).new hsl2 (.list (cis (lineN ps u) ++ cis (lineN ps v))) _ _ hp2
  generalize upd H3 sl2 _ = H4 at T3 hp3 ⊢
  clear T2 hp2 hL2
  rw [← cis_append]
  refine ⟨fun i ys H'' => H'' = H4 ∧ ys = cis (((lineN ps u ++ lineN ps v).take i).filter fun e => decide (e ∈ lineN ps u) != decide (e ∈ lineN ps v)), ⟨rfl, rfl⟩, ?_, ?_⟩
  · rintro Ca i xi ys H'' hx hok ⟨rfl, rfl⟩
    obtain ⟨hi, rfl⟩ := cis_item hx
    have hL3 := T3.ext _ _ hL
    generalize he : (lineN ps u ++ lineN ps v).getD i 0 = e at *
    refine ⟨?_, ?_⟩
    · have := List.length_filter_le (fun e => decide (e ∈ lineN ps u) != decide (e ∈ lineN ps v)) ((lineN ps u ++ lineN ps v).take i)
      have h2 : ((lineN ps u ++ lineN ps v).take i).length ≤ (lineN ps u ++ lineN ps v).length := by rw [List.length_take]; (clear hu hv hun n2 n4 n1 n3 ol le le2 hlu hlv hway h hsm hquo hasc hfar hn5 segl segget hseg ll he; omega)
      rw [List.length_append] at h2
      simp only [cis, List.length_map]; (clear hu hv hun n2 n4 n1 n3 ol le le2 hway h hsm hquo hasc hfar hn5 segl segget hseg ll hi he; omega)
    refine (?_ : Tr _ _ _ _ _ _ _ _ _)
    refine Tr.compare (Ev.compare (Ev.name (put_self ..) (.inl (by rfl)) (Ev.subscript (Ev.name (by rw [put_ne _ _ (by decide)]; exact compG_get (by rfl) T3.glines) (.inr (by rfl)) (Ev.name (by rw [put_ne _ _ (by decide)]; exact compG_get (by rfl) gu2) (.inr (by rfl)) ⟨L, _, rfl, hL3, Op2.item hL3 (by (clear hu hv hun n2 n4 n1 n3 ol le le2 hlu hlv hway h hsm hquo hasc hfar hn5 segl segget hseg ll hi he; omega)) (by (clear hun n1 ol le le2 hlu hlv hway h hsm hquo hasc hfar hn5 segl segget hseg hi he; omega)) hLu (Op2.inl (T3.ext _ _ hLu0) (cis_isInts _) ?_ rfl) rfl⟩)))))
    refine Ev.compare (Ev.name (put_self ..) (.inl (by rfl)) (Ev.subscript (Ev.name (by rw [put_ne _ _ (by decide)]; exact compG_get (by rfl) T3.glines) (.inr (by rfl)) (Ev.name (by rw [put_ne _ _ (by decide)]; exact compG_get (by rfl) gv2) (.inr (by rfl)) ⟨L, _, rfl, hL3, Op2.item hL3 (by (clear hu hv hun n2 n4 n1 n3 ol le le2 hlu hlv hway h hsm hquo hasc hfar hn5 segl segget hseg ll hi he; omega)) (by (clear hu hun n1 ol le le2 hlu hlv hway h hsm hquo hasc hfar hn5 segl segget hseg hi he; omega)) hLv (Op2.inl (T3.ext _ _ hLv0) (cis_isInts _) ?_ rfl) rfl⟩))))
    rw [any_cis, any_cis]
    refine Op2.neb ⟨_, rfl, ?_⟩
    generalize hpp : (fun e => decide (e ∈ lineN ps u) != decide (e ∈ lineN ps v)) = pp at *
    have epp : (decide (e ∈ lineN ps u) != decide (e ∈ lineN ps v)) = pp e := by rw [← hpp]
    have estep : ((lineN ps u ++ lineN ps v).take (i + 1)).filter pp = ((lineN ps u ++ lineN ps v).take i).filter pp ++ (if pp e = true then [e] else []) := by
      rw [take_succ_getD hi, he, filter_snoc]
    rw [epp]
    cases hb : pp e with
    | true =>
      rw [hb, if_pos rfl] at estep
      refine (?_ : Ev _ _ _ _ _ _ _ _ _)
      refine Ev.name (put_self ..) (.inl (by rfl)) ⟨hok, rfl, ?_⟩
      rw [estep, cis_snoc]
    | false =>
      rw [hb, if_neg Bool.false_ne_true, List.append_nil] at estep
      refine (?_ : _ ∧ _)
      exact ⟨hok, rfl, by rw [estep]⟩
  rintro ys H'' ⟨rfl, rfl⟩ wl hwl
  have eW : ((lineN ps u ++ lineN ps v).take (Src.list sl2 (cis (lineN ps u ++ lineN ps v))).items.length).filter (fun e => decide (e ∈ lineN ps u) != decide (e ∈ lineN ps v)) = wayN ps u v := by
    rw [List.take_of_length_le (by simp [Src.items, cis])]; rfl
  rw [eW]
  have T4 := (T3.heap ((Ext.refl H'').new hwl (.list (cis (wayN ps u v))))).put "way" (.r wl) (by decide)
  have hp4 := (Ext.refl H'').new hwl (.list (cis (wayN ps u v))) _ _ hp3
  have hw4 : (upd H'' wl (.list (cis (wayN ps u v)))) wl = some (.list (cis (wayN ps u v))) := upd_self ..
  have gw4 : (put Γ2 "way" (.r wl)) "way" = some (.r wl) := put_self ..
  have gp4 : (put Γ2 "way" (.r wl)) "piece" = some (.r pl) := by rw [put_ne _ _ (by decide)]; exact gp2
  have gu4 : (put Γ2 "way" (.r wl)) "u" = some (.i (u : Int)) := by rw [put_ne _ _ (by decide)]; exact gu2
  have gv4 : (put Γ2 "way" (.r wl)) "v" = some (.i (v : Int)) := by rw [put_ne _ _ (by decide)]; exact gv2
  refine (?_ : Ex _ _ _ _ _ _ _ _ _)
  have wlen : (wayN ps u v).length ≤ 2000 := by
    have := List.length_filter_le (fun e => decide (e ∈ lineN ps u) != decide (e ∈ lineN ps v)) (lineN ps u ++ lineN ps v)
    rw [List.length_append] at this
    unfold wayN; (clear hu hv hun n2 n4 n1 n3 ol le le2 hway h hsm hquo hasc hfar hn5 segl segget hseg ll; omega)
  clear T3 hp3 gu2 gv2 gp2
  generalize put Γ2 "way" (.r wl) = Γ4 at *
  generalize upd H'' wl _ = H5 at *
  generalize hW : wayN ps u v = W at *
  -- the bare ones
  have hd5 := T4.ext _ _ Y.hd
  refine Ex.cons (Ex.assignComp (hR.less (by decide)) ⟨rfl, rfl, by decide, by decide, (List.forall_mem_cons.mpr ⟨rfl, by intro p hp; cases hp⟩), by rfl, by rfl⟩ (It.list (Ev.name gw4 (.inl (by rfl)) ⟨wl, _, rfl, hw4, ?_⟩)))
  refine ⟨fun i ys H'' => H'' = H5 ∧ ys = cis ((W.take i).filter fun e => bareN (ws.getD e 0)), ⟨rfl, rfl⟩, ?_, ?_⟩
  · rintro Ca i xi ys H'' hx hok ⟨rfl, rfl⟩
    obtain ⟨hi, rfl⟩ := cis_item hx
    have hem := hway _ (getD_mem hi)
    have hts := take_succ_getD hi
    generalize W.getD i 0 = e at *
    refine ⟨?_, ?_⟩
    · have := List.length_filter_le (fun e => bareN (ws.getD e 0)) (W.take i)
      rw [List.length_take] at this
      simp only [cis, List.length_map]; (clear hu hv hun n2 n4 n1 n3 ol le le2 hlu hlv h hsm hquo hasc hn5 segl segget hseg ll hway hfar hem; omega)
    refine (?_ : Tr _ _ _ _ _ _ _ _ _)
    refine Tr.ofEv (Ev.callK (d := 1) B' 15 (by decide) (hR.less (by decide)) (EvL.cons (Ev.subscript (Ev.name (by rw [put_ne _ _ (by decide)]; exact compG_get (by rfl) T4.gweights) (.inr (by rfl)) (Ev.name (put_self ..) (.inl (by rfl)) ⟨d, _, rfl, hd5, Op2.item hd5 (by (clear hu hv hun n2 n4 n1 n3 ol le le2 hlu hlv h hsm hquo hasc hn5 segl segget hseg ll hway hfar wlen hi hem; omega)) (by (clear hun n1 ol le le2 hlu hlv h hsm hquo hasc hn5 segl segget hseg hway hfar wlen hi; omega)) (cis_get hem) ?_ rfl⟩)))))
    refine EvL.nil (bare_spec B' rfl ⟨_, rfl, ?_⟩)
    generalize hpp : (fun e => bareN (ws.getD e 0)) = pp at *
    have epp : bareN (ws.getD e 0) = pp e := by rw [← hpp]
    have estep : (W.take (i + 1)).filter pp = (W.take i).filter pp ++ (if pp e = true then [e] else []) := by rw [hts, filter_snoc]
    rw [epp]
    cases hb : pp e with
    | true =>
      rw [hb, if_pos rfl] at estep
      refine (?_ : Ev _ _ _ _ _ _ _ _ _)
      refine Ev.name (put_self ..) (.inl (by rfl)) ⟨hok, rfl, ?_⟩
      rw [estep, cis_snoc]
    | false =>
      rw [hb, if_neg Bool.false_ne_true, List.append_nil] at estep
      refine (?_ : _ ∧ _)
      exact ⟨hok, rfl, by rw [estep]⟩
  rintro ys H'' ⟨rfl, rfl⟩ bl hbl
  have eB : W.take (Src.list wl (cis W)).items.length = W := by rw [List.take_of_length_le (by simp [Src.items, cis])]
  rw [eB]
  generalize hBr : W.filter (fun e => bareN (ws.getD e 0)) = Br at *
  have T5 := (T4.heap ((Ext.refl H'').new hbl (.list (cis Br)))).put "bare" (.r bl) (by decide)
  have hp5 := (Ext.refl H'').new hbl (.list (cis Br)) _ _ hp4
  have hw5 := (Ext.refl H'').new hbl (.list (cis Br)) _ _ hw4
  have hb5 : (upd H'' bl (.list (cis Br))) bl = some (.list (cis Br)) := upd_self ..
  have gb5 : (put Γ4 "bare" (.r bl)) "bare" = some (.r bl) := put_self ..
  have gw5 : (put Γ4 "bare" (.r bl)) "way" = some (.r wl) := by rw [put_ne _ _ (by decide)]; exact gw4
  have gp5 : (put Γ4 "bare" (.r bl)) "piece" = some (.r pl) := by rw [put_ne _ _ (by decide)]; exact gp4
  have gu5 : (put Γ4 "bare" (.r bl)) "u" = some (.i (u : Int)) := by rw [put_ne _ _ (by decide)]; exact gu4
  have gv5 : (put Γ4 "bare" (.r bl)) "v" = some (.i (v : Int)) := by rw [put_ne _ _ (by decide)]; exact gv4
  refine (?_ : Ex _ _ _ _ _ _ _ _ _)
  clear T4 hp4 hw4 gw4 gp4 gu4 gv4 hd5
  generalize put Γ4 "bare" (.r bl) = Γ5 at *
  generalize upd H'' bl _ = H6 at *
  -- the brackets
  refine Ex.cons (Ex.if (Tr.compare (Ev.callK B' 2 (by decide) hR (EvL.cons (Ev.join (Ev.comp (hR.less (by decide)) ⟨rfl, rfl, by decide, by decide, (by intro p hp; cases hp), by rfl, by rfl⟩ (It.list (Ev.name gp5 (.inl (by rfl)) ⟨pl, _, rfl, hp5, ?_⟩))))))))
  refine ⟨fun i ys H'' => H'' = H6 ∧ ys = (((flat sg).take i).map one).map CV.s, ⟨rfl, rfl⟩, ?_, ?_⟩
  · rintro Ca i xi ys H'' hx hok ⟨rfl, rfl⟩
    obtain ⟨hi, rfl⟩ := cis_item hx
    have ho := hasc _ (getD_mem hi)
    have hts := take_succ_getD hi
    generalize (flat sg).getD i 0 = e at *
    refine ⟨by rw [List.length_map, List.length_map, List.length_take]; (clear hu hv hun n2 n4 n1 n3 ol le le2 hlu hlv h hquo hasc hn5 segl segget hseg ll hway hfar wlen ho; omega), ?_⟩
    refine (?_ : Ev _ _ _ _ _ _ _ _ _)
    refine Ev.callB (id := "chr") B'.toGl hmc (by kernel_rfl) (EvL.cons (Ev.name (put_self ..) (.inl (by rfl)) (EvL.nil (Bi.chr rfl (by (clear hu hv hun n2 n4 n1 n3 ol le le2 hlu hlv h hsm hquo hasc hn5 segl segget hseg ll hway hfar wlen hi; omega)) (by (clear hu hv hun n2 n4 n1 n3 ol le le2 hlu hlv h hsm hquo hasc hn5 segl segget hseg ll hway hfar wlen hi; omega)) ⟨hok, rfl, ?_⟩))))
    rw [hts, List.map_append, List.map_append, Int.toNat_natCast]; rfl
  rintro ys H'' ⟨rfl, rfl⟩ cl hcl
  have eF : (flat sg).take (Src.list pl (cis (flat sg))).items.length = flat sg := by rw [List.take_of_length_le (by simp [Src.items, cis])]
  rw [eF]
  have T6 := T5.heap ((Ext.refl H'').new hcl (.list (((flat sg).map one).map CV.s)))
  have hp6 := (Ext.refl H'').new hcl (.list (((flat sg).map one).map CV.s)) _ _ hp5
  have hw6 := (Ext.refl H'').new hcl (.list (((flat sg).map one).map CV.s)) _ _ hw5
  have hb6 := (Ext.refl H'').new hcl (.list (((flat sg).map one).map CV.s)) _ _ hb5
  refine ⟨cl, (flat sg).map one, rfl, upd_self .., joinOk_ones hsm, ?_⟩
  rw [join_ones]
  generalize upd H'' cl _ = H7 at *
  clear T5 hp5 hw5 hb5
  refine EvL.nil (check_spec B' (x := ⟨(flat sg).toArray⟩) hquo (by simpa using hasc) hesc ?_)
  refine (?_ : Ev _ _ _ _ _ _ _ _ _)
  refine Ev.compare (Ev.name gb5 (.inl (by rfl)) (Ev.list (EvL.nil ⟨by simp, fun el hel => ?_⟩)))
  have hbe : bl ≠ el := by rintro rfl; rw [hb6] at hel; cases hel
  refine Op2.eql (hR.less (by decide)) (by rw [upd_ne _ _ hbe]; exact hb6) (upd_self ..) (cis_isInts _) (ms := []) rfl (Op2.isNotb ⟨_, rfl, ?_⟩)
  have T7 := T6.heap ((Ext.refl H7).new hel (.list []))
  have hp7 := (Ext.refl H7).new hel (.list []) _ _ hp6
  have hw7 := (Ext.refl H7).new hel (.list []) _ _ hw6
  generalize upd H7 el _ = H8 at *
  clear T6 hp6 hw6 hb6
  have eC : (chkY 0 (genY false (flat sg)) != decide (Br.map Int.ofNat = [])) = false := by
    rw [hchk]
    cases Br <;> rfl
  show (if (chkY 0 (genY false (flat sg)) != decide (Br.map Int.ofNat = [])) = true then _ else _)
  rw [eC, if_neg Bool.false_ne_true]
  refine Ex.nil ?_
  refine (?_ : Ex _ _ _ _ _ _ _ _ _)
  -- what is read
  refine Ex.cons (Ex.assign (Ev.callK B' 16 (by decide) hR (EvL.cons (Ev.name gp5 (.inl (by rfl)) (EvL.nil (read_spec B' hp7 (by (clear hu hv hun n2 n4 n1 n3 ol le le2 hlu hlv h hquo hasc hn5 segl segget hseg ll hway hfar wlen hbe; omega)) hn5 fun tl H9 hE htl0 htl => ?_))))))
  have T9 := (T7.heap hE).put "told" (.r tl) (by decide)
  have hw9 := hE _ _ hw7
  have gt9 : (put Γ5 "told" (.r tl)) "told" = some (.r tl) := put_self ..
  have gw9 : (put Γ5 "told" (.r tl)) "way" = some (.r wl) := by rw [put_ne _ _ (by decide)]; exact gw5
  have gu9 : (put Γ5 "told" (.r tl)) "u" = some (.i (u : Int)) := by rw [put_ne _ _ (by decide)]; exact gu5
  have gv9 : (put Γ5 "told" (.r tl)) "v" = some (.i (v : Int)) := by rw [put_ne _ _ (by decide)]; exact gv5
  refine (?_ : Ex _ _ _ _ _ _ _ _ _)
  clear T7 hp7 hw7 gw5 gp5 gu5 gv5
  generalize put Γ5 "told" (.r tl) = Γ9 at *
  have hb9 := T9.ext _ _ Y.hb
  have ha9 := T9.ext _ _ Y.ha
  refine Ex.cons (Ex.if (Tr.compare (Ev.name gt9 (.inl (by rfl)) (Ev.slice (Ev.name T9.gsteps (.inl (by rfl)) (EvO.val (Ev.subscript (Ev.name T9.gfirsts (.inl (by rfl)) (Ev.name gu9 (.inr (by rfl)) ⟨b, _, rfl, hb9, Op2.item hb9 (by (clear hu hv hun n2 n4 n1 n3 ol le le2 hlu hlv h hsm hquo hasc hn5 segl segget hseg ll hway hfar wlen hbe; omega)) (by (clear hun n1 ol le le2 hlu hlv h hsm hquo hasc hn5 segl segget hseg hway hfar wlen hbe; omega)) (cis_get (by (clear hu hv n4 n1 ol le le2 hlu hlv h hsm hquo hasc hn5 segl segget hseg hway hfar wlen hbe; omega))) ⟨_, rfl, ?_⟩ rfl⟩)))))))))
  refine EvO.val (Ev.subscript (Ev.name T9.gfirsts (.inl (by rfl)) (Ev.name gv9 (.inr (by rfl)) ⟨b, _, rfl, hb9, Op2.item hb9 (by (clear hu hv hun n2 n4 n1 n3 ol le le2 hlu hlv h hsm hquo hasc hn5 segl segget hseg ll hway hfar wlen hbe; omega)) (by (clear hu hun n1 ol le le2 hlu hlv h hsm hquo hasc hn5 segl segget hseg hway hfar wlen hbe; omega)) (cis_get (by (clear hu hun n4 n1 ol le le2 hlu hlv h hsm hquo hasc hn5 segl segget hseg hway hfar wlen hbe; omega))) ⟨_, rfl, ?_⟩ rfl⟩)))
  refine ⟨a, _, _, rfl, ha9, by rw [cis, List.length_map]; (clear hu hv hun n2 n4 n3 le le2 hlu hlv h hsm hquo hasc hn5 segl segget hseg ll hway hfar wlen hbe; omega), pick_run (by (clear hu hv hun n2 n4 n1 n3 ol le le2 hlu hlv h hsm hquo hasc hn5 segl segget hseg ll hway hfar wlen hbe; omega)) (by (clear hu hv hun n2 n4 n1 n3 ol le2 hlu hlv h hsm hquo hasc hn5 segl segget hseg ll hway hfar wlen hbe; omega)) (by rw [cis, List.length_map]; (clear hu hv hun n2 n4 n1 n3 le hlu hlv h hsm hquo hasc hn5 segl segget hseg ll hway hfar wlen hbe; omega)), fun sl3 hsl3 => ?_⟩
  rw [Int.toNat_natCast, Int.toNat_natCast, cis_drop, cis_take, show ((steps.drop (firsts.getD u 0)).take (firsts.getD v 0 - firsts.getD u 0)) = sg from hsg]
  have hts : tl ≠ sl3 := by rintro rfl; rw [htl] at hsl3; cases hsl3
  refine Op2.nel (hR.less (by decide)) (by rw [upd_ne _ _ hts]; exact htl) (upd_self ..) (cis_isInts _) (cis_isInts _) ⟨_, rfl, ?_⟩
  rw [decide_eq_true rfl]
  refine (?_ : Ex _ _ _ _ _ _ _ _ _)
  refine Ex.nil ?_
  refine (?_ : Ex _ _ _ _ _ _ _ _ _)
  have T10 := T9.heap ((Ext.refl H9).new hsl3 (.list (cis sg)))
  have ht10 := (Ext.refl H9).new hsl3 (.list (cis sg)) _ _ htl
  have hw10 := (Ext.refl H9).new hsl3 (.list (cis sg)) _ _ hw9
  generalize upd H9 sl3 _ = H10 at *
  clear T9 hw9 hb9 ha9
  -- how far
  have sgl : sg.length ≤ 1000 := by (clear hu hv hun n2 n4 n3 hlu hlv h hsm hquo hasc hn5 segget hseg ll hway hfar wlen hbe hts; omega)
  refine Ex.cons (Ex.assign (Ev.callK B' 17 (by decide) hR (EvL.cons (Ev.name gt9 (.inl (by rfl)) (EvL.nil (far_spec B' ht10 (by (clear hu hv hun n2 n4 n1 n3 ol le le2 hlu hlv h hsm hquo hasc hn5 segget hseg ll hway hfar wlen hbe hts; omega)) fun H11 hE11 => ?_))))))
  have T11 := (T10.heap hE11).put "far" (.i ((farN sg : Nat) : Int)) (by decide)
  have hw11 := hE11 _ _ hw10
  have gf11 : (put Γ9 "far" (.i ((farN sg : Nat) : Int))) "far" = some (.i ((farN sg : Nat) : Int)) := put_self ..
  have gw11 : (put Γ9 "far" (.i ((farN sg : Nat) : Int))) "way" = some (.r wl) := by rw [put_ne _ _ (by decide)]; exact gw9
  have gu11 : (put Γ9 "far" (.i ((farN sg : Nat) : Int))) "u" = some (.i (u : Int)) := by rw [put_ne _ _ (by decide)]; exact gu9
  have gv11 : (put Γ9 "far" (.i ((farN sg : Nat) : Int))) "v" = some (.i (v : Int)) := by rw [put_ne _ _ (by decide)]; exact gv9
  refine (?_ : Ex _ _ _ _ _ _ _ _ _)
  clear T10 hw10 gw9 gu9 gv9 gt9 ht10
  generalize put Γ9 "far" (.i ((farN sg : Nat) : Int)) = Γ11 at *
  have hd11 := T11.ext _ _ Y.hd
  refine Ex.cons (Ex.if (Tr.compare (Ev.name gf11 (.inl (by rfl)) (Ev.callB (id := "sum") B'.toGl hms (by kernel_rfl) (EvL.cons (Ev.comp (hR.less (by decide)) ⟨rfl, rfl, by decide, by decide, (List.forall_mem_cons.mpr ⟨rfl, by intro p hp; cases hp⟩), by rfl, by rfl⟩ (It.list (Ev.name gw11 (.inl (by rfl)) ⟨wl, _, rfl, hw11, ?_⟩))))))))
  refine ⟨fun i ys H'' => H'' = H11 ∧ ys = cis ((W.take i).map fun e => ws.getD e 0), ⟨rfl, rfl⟩, ?_, ?_⟩
  · rintro Ca i xi ys H'' hx hok ⟨rfl, rfl⟩
    obtain ⟨hi, rfl⟩ := cis_item hx
    have hem := hway _ (getD_mem hi)
    have hts := take_succ_getD hi
    generalize W.getD i 0 = e at *
    refine ⟨by rw [cis, List.length_map, List.length_map, List.length_take]; (clear hu hv hun n2 n4 n1 n3 ol le le2 hlu hlv h hsm hquo hasc hn5 segl segget hseg ll hway hfar hbe sgl hem; omega), ?_⟩
    refine (?_ : Ev _ _ _ _ _ _ _ _ _)
    refine Ev.subscript (Ev.name (by rw [put_ne _ _ (by decide)]; exact compG_get (by rfl) T11.gweights) (.inr (by rfl)) (Ev.name (put_self ..) (.inl (by rfl)) ⟨d, _, rfl, hd11, Op2.item hd11 (by (clear hu hv hun n2 n4 n1 n3 ol le le2 hlu hlv h hsm hquo hasc hn5 segl segget hseg ll hway hfar wlen hbe sgl hi hem; omega)) (by (clear hun n1 ol le le2 hlu hlv h hsm hquo hasc hn5 segl segget hseg hway hfar wlen hbe sgl hi; omega)) (cis_get hem) ⟨hok, rfl, ?_⟩ rfl⟩))
    rw [hts, List.map_append]
    exact (cis_snoc _ _).symm
  rintro ys H'' ⟨rfl, rfl⟩ al hal
  have eW2 : W.take (Src.list wl (cis W)).items.length = W := by rw [List.take_of_length_le (by simp [Src.items, cis])]
  rw [eW2]
  have T12 := T11.heap ((Ext.refl H'').new hal (.list (cis (W.map fun e => ws.getD e 0))))
  refine EvL.nil (Bi.sum (hR.less (by decide)) (upd_self ..) (cis_isInts _) (Op2.nei (a := ((farN sg : Nat) : Int)) ⟨_, rfl, ?_⟩))
  have esum : ((W.map fun e => ws.getD e 0).map Int.ofNat).sum = ((farN sg : Nat) : Int) := by
    rw [hfar]
    generalize (W.map fun e => ws.getD e 0) = z
    induction z with
    | nil => rfl
    | cons x r ih => rw [List.map_cons, List.sum_cons, ih, List.sum_cons]; rfl
  rw [esum, bne_self_eq_false]
  refine (?_ : Ex _ _ _ _ _ _ _ _ _)
  refine Ex.nil ?_
  refine (?_ : Ex _ _ _ _ _ _ _ _ _)
  generalize upd H'' al _ = H12 at *
  clear T11 hw11
  -- the two stores
  obtain ⟨yu, hyu, hru, hmu⟩ := T12.mat.get hun
  refine Ex.cons (Ex.expr (Ev.callK (d := 1) B' 12 (by decide) (hR.less (by decide)) (EvL.cons (Ev.matRow T12.mat hun n4 rfl (fun Q' q => Ev.name T12.gtable (.inl (by rfl)) q) (fun Q' q => Ev.name gu11 (.inr (by rfl)) q) fun y hy => EvL.cons (Ev.name gv11 (.inr (by rfl)) (EvL.cons (Ev.name gf11 (.inl (by rfl)) (EvL.nil ?_))))))))
  rw [hyu] at hy; cases hy
  refine setitem_spec B' hru (k := (v : Int)) rfl (by (clear hu hv hun n2 n4 n1 n3 ol le le2 hlu hlv h hsm hquo hasc hn5 segl segget hseg ll hway hfar wlen hbe hts sgl esum; omega)) (by (clear hu hun n1 ol le le2 hlu hlv h hsm hquo hasc hn5 segl segget hseg hway hfar wlen hbe hts sgl esum; omega)) (by rw [rowL_len, Int.toNat_natCast]; exact hv) ?_
  rw [Int.toNat_natCast]
  have T13 := T12.set hun hyu (j := v) ((farN sg : Nat) : Int)
  refine (?_ : Ex _ _ _ _ _ _ _ _ _)
  generalize upd H12 yu _ = H13 at *
  clear T12
  obtain ⟨yv, hyv, hrv, hmv⟩ := T13.mat.get hv
  refine Ex.one (Ex.expr (Ev.callK (d := 1) B' 12 (by decide) (hR.less (by decide)) (EvL.cons (Ev.matRow T13.mat hv n4 rfl (fun Q' q => Ev.name T13.gtable (.inl (by rfl)) q) (fun Q' q => Ev.name gv11 (.inr (by rfl)) q) fun y hy => EvL.cons (Ev.name gu11 (.inr (by rfl)) (EvL.cons (Ev.name gf11 (.inl (by rfl)) (EvL.nil ?_))))))))
  rw [hyv] at hy; cases hy
  refine setitem_spec B' hrv (k := (u : Int)) rfl (by (clear hu hv hun n2 n4 n1 n3 ol le le2 hlu hlv h hsm hquo hasc hn5 segl segget hseg ll hway hfar wlen hbe hts sgl esum; omega)) (by (clear hun n1 ol le le2 hlu hlv h hsm hquo hasc hn5 segl segget hseg hway hfar wlen hbe hts sgl esum; omega)) (by rw [rowL_len, Int.toNat_natCast]; exact hun) ?_
  rw [Int.toNat_natCast]
  exact h _ _ (T13.set hv hyv (j := u) ((farN sg : Nat) : Int)) gv11
end
end Mine

set_option maxRecDepth 100000
set_option maxHeartbeats 2000000
namespace Mine
def pt (D : Nat → Nat → Int) (v0 u0 : Nat) : Nat → Nat → Int := fun i j => if i = j then 0 else if max i j < v0 ∨ (max i j = v0 ∧ min i j < u0) then D (min i j) (max i j) else 0
def tabN (steps firsts : List Nat) : Nat → Nat → Int := fun i j => if i = j then 0 else ((farN (segN steps firsts (min i j) (max i j)) : Nat) : Int)
theorem pt_start (D : Nat → Nat → Int) (i j : Nat) : pt D 0 0 i j = 0 := by
  unfold pt
  split
  · rfl
  · rw [if_neg (by omega)]
theorem pt_step (D : Nat → Nat → Int) {u v : Nat} (h : u < v) : setM (setM (pt D v u) u v (D u v)) v u (D u v) = pt D v (u + 1) := by
  funext i j
  unfold setM pt
  by_cases h1 : i = v ∧ j = u
  · obtain ⟨rfl, rfl⟩ := h1
    rw [if_pos ⟨rfl, rfl⟩, if_neg (by omega), if_pos (by omega), Nat.min_eq_right (by omega), Nat.max_eq_left (by omega)]
  · rw [if_neg h1]
    by_cases h2 : i = u ∧ j = v
    · obtain ⟨rfl, rfl⟩ := h2
      rw [if_pos ⟨rfl, rfl⟩, if_neg (by (clear h1; omega)), if_pos (by (clear h1; omega)), Nat.min_eq_left (by (clear h1; omega)), Nat.max_eq_right (by (clear h1; omega))]
    · rw [if_neg h2]
      by_cases h3 : i = j
      · rw [if_pos h3, if_pos h3]
      · rw [if_neg h3, if_neg h3]
        by_cases h4 : max i j < v ∨ (max i j = v ∧ min i j < u)
        · rw [if_pos h4, if_pos (by (clear h h1 h2 h3; omega))]
        · rw [if_neg h4, if_neg (by omega)]
theorem pt_row (D : Nat → Nat → Int) (v : Nat) : pt D v v = pt D (v + 1) 0 := by
  funext i j
  unfold pt
  by_cases h3 : i = j
  · rw [if_pos h3, if_pos h3]
  · rw [if_neg h3, if_neg h3]
    by_cases h4 : max i j < v ∨ (max i j = v ∧ min i j < v)
    · rw [if_pos h4, if_pos (by (clear h3; omega))]
    · rw [if_neg h4, if_neg (by omega)]
theorem pt_end (steps firsts : List Nat) {n i j : Nat} (hi : i < n) (hj : j < n) : pt (fun u v => ((farN (segN steps firsts u v) : Nat) : Int)) n 0 i j = tabN steps firsts i j := by
  unfold pt tabN
  by_cases h3 : i = j
  · rw [if_pos h3, if_pos h3]
  · rw [if_neg h3, if_neg h3, if_pos (by (clear h3; omega))]
theorem rowL_zero (n : Nat) : List.replicate n (CV.i 0) = rowL n fun _ => 0 := by
  apply List.ext_getElem?
  intro k
  by_cases hk : k < n
  · rw [rowL_get _ hk]; simp [hk]
  · simp [rowL, hk]
section
variable {prog : Program} {w : World} {hB : BB} {A : Around} {env : Env} {Γ : G} {Hc : H} {mg mb : Str → Option Value} {f : Nat → Addr}
theorem table_spec (B : Base hB mg mb f) {steps firsts ps ws : List Nat} {a b c d : Addr} {P : CV → H → Prop} (ha : Hc a = some (.list (cis steps))) (hb : Hc b = some (.list (cis firsts))) (hc : Hc c = some (.list (cis ps))) (hd : Hc d = some (.list (cis ws)))
    (n1 : steps.length ≤ 1000) (n2 : firsts.length = ps.length) (n3 : ws.length = ps.length) (n4 : ps.length ≤ 100) (n5 : ∀ s ∈ steps, s < 2 ^ 60) (hps : ∀ u, 0 < u → u < ps.length → ps.getD u 0 < u) (hpair : ∀ u v, u < v → v < ps.length → Pair steps firsts ps ws u v)
    (h : ∀ R as H', Ext Hc H' → Mat H' R as ps.length (tabN steps firsts) → P (.r R) H') : Fn prog w hB 3 (f 19) [.r a, .r b, .r c, .r d] Hc P := by
  refine Fn.cells B.toGl (B.fn 19 (by decide)) ["steps", "firsts", "parents", "weights"] (fun A code fr hR => ?_) (bind4 fun _ _ _ _ _ _ _ => rfl) (by rfl)
  have B' := B.deep fr
  have hml : mg "len" = none := B.free _ (by decide +kernel) (by decide +kernel)
  have hmr : mg "range" = none := B.free _ (by decide +kernel) (by decide +kernel)
  -- the octets of each step
  refine Ex.cons (Ex.assignComp (hR.less (by decide)) ⟨rfl, rfl, by decide, by decide, (by intro p hp; cases hp), by rfl, by rfl⟩ (It.list (Ev.name (cv := .r a) (by rfl) (.inl (by rfl)) ⟨a, _, rfl, ha, ?_⟩)))
  refine ⟨fun i ys H' => ∃ os : List Addr, ys = os.map CV.r ∧ os.length = i ∧ Ext Hc H' ∧ ∀ j (h : j < os.length), H' os[j] = some (.list (cis (octs (steps.getD j 0)))), ⟨[], rfl, rfl, Ext.refl _, by simp⟩, ?_, ?_⟩
  · rintro Ca i xi ys H' hx hok ⟨os, rfl, hlen, hE, ho⟩
    obtain ⟨hi, rfl⟩ := cis_item hx
    refine ⟨by rw [List.length_map]; (clear n2 n3 n4 n5 hps hpair h ho; omega), ?_⟩
    refine (?_ : Ev _ _ _ _ _ _ _ _ _)
    refine Ev.callK (d := 1) B' 14 (by decide) (hR.less (by decide)) (EvL.cons (Ev.name (put_self ..) (.inl (by rfl)) (EvL.nil (octets_spec B' rfl (n5 _ (getD_mem hi)) fun r H2 hE2 hr0 hr => ?_))))
    refine ⟨hE2 _ _ hok, os ++ [r], by simp, by simp [hlen], hE.trans hE2, fun j hj => ?_⟩
    by_cases q : j < os.length
    · rw [List.getElem_append_left q]; exact hE2 _ _ (ho j q)
    · have : j = os.length := by simp at hj; (clear n1 n2 n3 n4 n5 hps hpair h ho hi; omega)
      subst this
      simp only [List.getElem_append_right (Nat.le_refl _), Nat.sub_self, List.getElem_cons_zero]
      rw [hr, hlen]
  rintro ys H1 ⟨os, rfl, hol, hE1, ho⟩ O hO0
  have e1 : (Src.list a (cis steps)).items.length = steps.length := by simp [Src.items, cis]
  rw [e1] at hol
  have hEO := hE1.new hO0 (.list (os.map CV.r))
  have hO : (upd H1 O (.list (os.map CV.r))) O = some (.list (os.map CV.r)) := upd_self ..
  have ho2 : ∀ j (h : j < os.length), (upd H1 O (.list (os.map CV.r))) os[j] = some (.list (cis (octs (steps.getD j 0)))) := fun j h => upd_new (ho j h) hO0
  refine (?_ : Ex _ _ _ _ _ _ _ _ _)
  generalize upd H1 O _ = H2 at *
  clear ho hE1
  have gp : (put (BindsC ["steps", "firsts", "parents", "weights"] [.r a, .r b, .r c, .r d]) "octets" (.r O)) "parents" = some (.r c) := by rfl
  -- the lines
  refine Ex.cons (Ex.assign (Ev.comp (hR.less (by decide)) ⟨rfl, rfl, by decide, by decide, (List.forall_mem_cons.mpr ⟨rfl, by intro p hp; cases hp⟩), by rfl, by rfl⟩
    (It.range1 B'.toGl hmr (Ev.callB (id := "len") B'.toGl hml (by kernel_rfl) (EvL.cons (Ev.name gp (.inr (by rfl)) (EvL.nil (Bi.len (hEO _ _ hc) (by simp only [cis, List.length_map]; (clear n1 n5 hps hpair h hol e1 ho2; omega)) ⟨_, rfl, by (clear n1 n2 n3 n4 n5 hps hpair h hol e1 ho2; omega), by simp only [cis, List.length_map]; (clear n1 n5 hps hpair h hol e1 ho2; omega), ?_⟩))))))))
  rw [show (((cis ps).length : Nat) : Int).toNat = ps.length by simp [cis]]
  refine ⟨fun i ys H' => ∃ ls : List Addr, ys = ls.map CV.r ∧ ls.length = i ∧ Ext H2 H' ∧ ∀ j (h : j < ls.length), H' ls[j] = some (.list (cis (lineN ps j))), ⟨[], rfl, rfl, Ext.refl _, by simp⟩, ?_, ?_⟩
  · rintro Ca i xi ys H' hx hok ⟨ls, rfl, hlen, hE, hl⟩
    obtain ⟨hi, rfl⟩ := range_item hx
    rw [Int.zero_add]
    refine ⟨by rw [List.length_map]; (clear n1 n5 hps hpair h hol e1 ho2 hl; omega), ?_⟩
    refine (?_ : Ev _ _ _ _ _ _ _ _ _)
    refine Ev.callK (d := 1) B' 18 (by decide) (hR.less (by decide)) (EvL.cons (Ev.name (by rw [put_ne _ _ (by decide)]; exact compG_get (by rfl) gp) (.inr (by rfl)) (EvL.cons (Ev.name (put_self ..) (.inl (by rfl)) (EvL.nil (line_spec B' (hE _ _ (hEO _ _ hc)) hps hi (by (clear n1 n5 hps hpair h hol e1 ho2 hlen hl hi; omega)) fun r H3 hE2 hr0 hr => ?_))))))
    refine ⟨hok, ls ++ [r], by simp, by simp [hlen], hE.trans hE2, fun j hj => ?_⟩
    by_cases q : j < ls.length
    · rw [List.getElem_append_left q]; exact hE2 _ _ (hl j q)
    · have : j = ls.length := by simp at hj; (clear n1 n2 n3 n4 n5 hps hpair h hol e1 ho2 hl hi; omega)
      subst this
      simp only [List.getElem_append_right (Nat.le_refl _), Nat.sub_self, List.getElem_cons_zero]
      rw [hr, hlen]
  rintro ys H3 ⟨ls, rfl, hll, hE3, hl⟩ L hL0
  rw [show (Src.range 0 ps.length).items.length = ps.length by simp [Src.items]] at hll
  have hEL := hE3.new hL0 (.list (ls.map CV.r))
  have hL : (upd H3 L (.list (ls.map CV.r))) L = some (.list (ls.map CV.r)) := upd_self ..
  have hl2 : ∀ j (h : j < ls.length), (upd H3 L (.list (ls.map CV.r))) ls[j] = some (.list (cis (lineN ps j))) := fun j h => upd_new (hl j h) hL0
  have gl : (put (put (BindsC ["steps", "firsts", "parents", "weights"] [.r a, .r b, .r c, .r d]) "octets" (.r O)) "lines" (.r L)) "lines" = some (.r L) := put_self ..
  refine (?_ : Ex _ _ _ _ _ _ _ _ _)
  generalize upd H3 L _ = H4 at *
  clear hl hE3
  have hE4 := hEO.trans hEL
  have Y : TLay H4 steps firsts ps ws a b c d O L os ls := ⟨hE4 _ _ ha, hE4 _ _ hb, hE4 _ _ hc, hE4 _ _ hd, hEL _ _ hO, hol, fun j h => hEL _ _ (ho2 j h), hL, hll, hl2, n1, n2, n3, n4, n5⟩
  -- the zeros
  refine Ex.cons (Ex.assignComp (hR.less (by decide)) ⟨rfl, rfl, by decide, by decide, (List.forall_mem_cons.mpr ⟨rfl, by intro p hp; cases hp⟩), by rfl, by rfl⟩ (It.list (Ev.name gl (.inr (by rfl)) ⟨L, _, rfl, hL, ?_⟩)))
  refine ⟨fun i ys H' => ∃ as : List Addr, ys = as.map CV.r ∧ as.length = i ∧ as.Nodup ∧ Ext H4 H' ∧ (∀ x ∈ as, H4 x = none) ∧ ∀ j (h : j < as.length), H' as[j] = some (.list (rowL ps.length fun _ => 0)), ⟨[], rfl, rfl, List.nodup_nil, Ext.refl _, by simp, by simp⟩, ?_, ?_⟩
  · rintro Ca i xi ys H' hx hok ⟨as, rfl, hlen, hnd, hE, hnone, hrow⟩
    obtain ⟨hi, -⟩ := list_item hx
    rw [List.length_map] at hi
    refine ⟨by rw [List.length_map]; (clear n1 n5 hps hpair h hol e1 ho2 hl2 hnone hrow; omega), ?_⟩
    refine (?_ : Ev _ _ _ _ _ _ _ _ _)
    refine Ev.binop (Ev.list (EvL.cons (Ev.int (EvL.nil ⟨by simp, fun z hz => ?_⟩))))
    have hEz := hE.new hz (.list [.i 0])
    refine Ev.callB (id := "len") B'.toGl hml (by kernel_rfl) (EvL.cons (Ev.name (by rw [put_ne _ _ (by decide)]; exact compG_get (by rfl) gl) (.inr (by rfl)) (EvL.nil (Bi.len (hEz _ _ hL) (by rw [List.length_map]; (clear n1 n5 hps hpair h hol e1 ho2 hl2 hlen hnone hrow hi; omega)) ?_))))
    refine Op2.mull (n := ((ls.map CV.r).length : Int)) (upd_self ..) (by (clear n1 n2 n3 n4 n5 hps hpair h hol e1 ho2 hll hl2 hlen hnone hrow hi; omega)) (by rw [List.length_map]; (clear n1 n5 hps hpair h hol e1 ho2 hl2 hlen hnone hrow hi; omega)) (fun y hy => ?_) rfl
    rw [Int.toNat_natCast, List.length_map, rowL_zero, hll]
    have hy0 := hEz.off hy
    have hna : y ∉ as := fun hm => by
      obtain ⟨j, hj, rfl⟩ := List.getElem_of_mem hm
      have := hrow j hj
      rw [upd_ne _ _ (by rintro rfl; rw [hz] at this; cases this), this] at hy; cases hy
    refine ⟨(hEz.new hy _) _ _ hL, as ++ [y], by simp, by simp [hlen], ?_, hEz.new hy _, ?_, ?_⟩
    · rw [List.nodup_append]
      exact ⟨hnd, by simp, by intro p hp q hq; rw [List.mem_singleton.mp hq]; rintro rfl; exact hna hp⟩
    · intro p hp
      rcases List.mem_append.mp hp with hp | hp
      · exact hnone p hp
      · rw [List.mem_singleton.mp hp]; exact hy0
    · intro j hj
      by_cases q : j < as.length
      · rw [List.getElem_append_left q]
        have := hrow j q
        rw [upd_ne _ _ (by rintro e; exact hna (e ▸ List.getElem_mem q)), upd_ne _ _ (by rintro e; rw [e, hz] at this; cases this)]
        exact this
      · have : j = as.length := by simp at hj; (clear n1 n2 n3 n4 n5 hps hpair h hol e1 ho2 hll hl2 hnone hrow hi hna; omega)
        subst this
        simp only [List.getElem_append_right (Nat.le_refl _), Nat.sub_self, List.getElem_cons_zero]
        exact upd_self ..
  rintro ys H5 ⟨as, rfl, hal, hnd, hE5, hnone, hrow⟩ R hR0
  have hal' : as.length = ps.length := by rw [hal]; simp [Src.items, hll]
  have T0 : TSt H4 (upd H5 R (.list (as.map CV.r))) (put (put (put (BindsC ["steps", "firsts", "parents", "weights"] [.r a, .r b, .r c, .r d]) "octets" (.r O)) "lines" (.r L)) "table" (.r R)) a b d O L R as ps.length (pt (fun u v => ((farN (segN steps firsts u v) : Nat) : Int)) 0 0) := by
    refine ⟨by rfl, by rfl, by rfl, by rfl, by rfl, by rfl, hE5.new hR0 _, ⟨upd_self .., hal', hnd, fun hm => ?_, fun i hi => ?_⟩, hE5.off hR0, hnone⟩
    · obtain ⟨j, hj, rfl⟩ := List.getElem_of_mem hm
      rw [hrow j hj] at hR0; cases hR0
    · rw [upd_ne _ _ (by rintro e; rw [← e, hrow i hi] at hR0; cases hR0), hrow i hi]
      congr 2
      unfold rowL
      exact List.map_congr_left fun j _ => by rw [pt_start]
  refine (?_ : Ex _ _ _ _ _ _ _ _ _)
  generalize upd H5 R _ = H6 at *
  generalize (put (put (put (BindsC ["steps", "firsts", "parents", "weights"] [.r a, .r b, .r c, .r d]) "octets" (.r O)) "lines" (.r L)) "table" (.r R)) = Γ6 at *
  clear hrow hnone hE5
  -- the pairs
  refine Ex.cons (Ex.for (hR.less (by decide)) (It.range1 B'.toGl hmr (Ev.callB (id := "len") B'.toGl hml (by kernel_rfl) (EvL.cons (Ev.name T0.glines (.inr (by rfl)) (EvL.nil (Bi.len (T0.ext _ _ hL) (by rw [List.length_map]; (clear n1 n5 hps hpair h hol e1 ho2 hl2; omega)) ⟨_, rfl, by (clear n1 n2 n3 n4 n5 hps hpair h hol e1 ho2 hll hl2 hal hal'; omega), by rw [List.length_map]; (clear n1 n5 hps hpair h hol e1 ho2 hl2; omega), ?_⟩)))))))
  rw [show (((ls.map CV.r).length : Nat) : Int).toNat = ps.length by rw [Int.toNat_natCast, List.length_map, hll]]
  refine ⟨fun v Γ' H' => TSt H4 H' Γ' a b d O L R as ps.length (pt (fun u v => ((farN (segN steps firsts u v) : Nat) : Int)) v 0), T0, ?_, ?_⟩
  · rintro v xi Γ' H' hx - T
    obtain ⟨hv, rfl⟩ := range_item hx
    rw [Int.zero_add]
    have T1 := T.put "v" (.i (v : Int)) (by decide)
    have gv : (put Γ' "v" (.i (v : Int))) "v" = some (.i (v : Int)) := put_self ..
    generalize put Γ' "v" (.i (v : Int)) = Γ1 at *
    refine Ex.one (Ex.for (hR.less (by decide)) (It.range1 B'.toGl hmr (Ev.name gv (.inr (by rfl)) ⟨_, rfl, by (clear n1 n2 n3 n4 n5 hps hpair h hol e1 ho2 hll hl2 hal hal' hv; omega), by (clear n1 n5 hps hpair h hol e1 ho2 hl2; omega), ?_⟩)))
    rw [Int.toNat_natCast]
    refine ⟨fun u Γ' H' => TSt H4 H' Γ' a b d O L R as ps.length (pt (fun u v => ((farN (segN steps firsts u v) : Nat) : Int)) v u) ∧ Γ' "v" = some (.i (v : Int)), ⟨T1, gv⟩, ?_, ?_⟩
    · rintro u xu Γ2 H7 hxu - ⟨T2, gv2⟩
      obtain ⟨hu, rfl⟩ := range_item hxu
      rw [Int.zero_add]
      refine pair_run B hR Y (T2.put "u" (.i (u : Int)) (by decide)) hu hv (put_self ..) (by rw [put_ne _ _ (by decide)]; exact gv2) (hpair u v hu hv) fun Γ3 H8 T3 gv3 => ?_
      rw [pt_step (fun u v => ((farN (segN steps firsts u v) : Nat) : Int)) hu] at T3
      exact ⟨trivial, T3, gv3⟩
    · rintro Γ2 H7 ⟨T2, -⟩
      rw [show (Src.range 0 v).items.length = v by simp [Src.items], pt_row] at T2
      exact ⟨trivial, T2⟩
  · rintro Γ' H' T
    rw [show (Src.range 0 ps.length).items.length = ps.length by simp [Src.items]] at T
    refine Ex.one (Ex.ret (Ev.name T.gtable (.inl (by rfl)) ?_))
    exact h R as H' (hE4.trans T.ext) (T.mat.congr fun i j hi hj => pt_end steps firsts hi hj)
end
end Mine

set_option maxRecDepth 100000
set_option maxHeartbeats 2000000
namespace Mine
def endI (ps : List Nat) (v : Nat) : Int := 2 - (((ps.drop 1).count v : Nat) : Int) - (if 0 < v then 1 else 0)
def prodI : List Nat → Int
  | [] => 1
  | w :: r => (w : Int) * prodI r
/-- all that the law asks of the walk's lists, told without the program -/
structure Lawful (steps firsts ps ws : List Nat) : Prop where
  n0 : 2 ≤ ps.length
  n1 : steps.length ≤ 1000
  n2 : firsts.length = ps.length
  n3 : ws.length = ps.length
  n4 : ps.length ≤ 10
  n5 : ∀ s ∈ steps, s < 2 ^ 60
  n6 : ∀ w ∈ ws, w < 2 ^ 21
  n7 : ∀ p ∈ ps, p < 250
  ord : ∀ u, 0 < u → u < ps.length → ps.getD u 0 < u
  pair : ∀ u v, u < v → v < ps.length → Pair steps firsts ps ws u v
  small : (flat steps).length ≤ 10000
  quote : 34 ∉ flat steps
  ascii : ∀ o ∈ flat steps, o < 128
  esc : endEsc false (flat steps) = false
  chk : chkY 0 (genY false (flat steps)) = true
  bnd : ∀ i j, i < ps.length → j < ps.length → (tabN steps firsts i j).natAbs < 2 ^ 200
  row : ∀ i, i < ps.length → ((List.range ps.length).map fun v => tabN steps firsts i v * endI ps v).sum = (ws.sum : Nat)
  worth : Worth ps.length ((-1) ^ (ps.length - 1) * 2 ^ (ps.length - 2) * prodI (ws.drop 1) * ((ws.sum : Nat) : Int)) 0 (tabN steps firsts) 1 1
theorem rowL_succ (n : Nat) (r : Nat → Int) : rowL (n + 1) r = rowL n r ++ [.i (r n)] := by unfold rowL; rw [List.range_succ, List.map_append]; rfl
theorem rowL_ints (n : Nat) (r : Nat → Int) : IsInts (rowL n r) ((List.range n).map r) := by
  unfold IsInts rowL
  rw [List.map_map, List.map_map]; rfl
theorem prodI_snoc (l : List Nat) (x : Nat) : prodI (l ++ [x]) = prodI l * (x : Int) := by
  induction l with
  | nil => show (x : Int) * 1 = 1 * (x : Int); rw [Int.mul_one, Int.one_mul]
  | cons a r ih => show (a : Int) * prodI (r ++ [x]) = (a : Int) * prodI r * (x : Int); rw [ih, Int.mul_assoc]
theorem prodI_lt {l : List Nat} (h : ∀ w ∈ l, w < 2 ^ 21) : (prodI l).natAbs ≤ 2 ^ (21 * l.length) := by
  induction l with
  | nil => decide
  | cons a r ih =>
    have h1 := ih fun w hw => h w (List.mem_cons_of_mem _ hw)
    have h2 := h a (List.mem_cons_self ..)
    show ((a : Int) * prodI r).natAbs ≤ _
    rw [Int.natAbs_mul, Int.natAbs_natCast, List.length_cons, Nat.mul_succ, Nat.add_comm, Nat.pow_add]
    exact Nat.mul_le_mul (Nat.le_of_lt h2) h1
theorem endI_lt {ps : List Nat} (h : ps.length ≤ 10) (v : Nat) : (endI ps v).natAbs < 2 ^ 1000 := by
  have h1 : (ps.drop 1).count v ≤ (ps.drop 1).length := List.count_le_length
  rw [List.length_drop] at h1
  have h2 : (endI ps v).natAbs ≤ 12 := by unfold endI; split <;> omega
  exact Nat.lt_of_le_of_lt h2 (by decide)
theorem ints_weak {τ : TC} : ∀ {vs : List Value} {ns : List Int}, IntsAre vs ns → AllIs τ vs (ns.map CV.w)
  | _, _, .nil => trivial
  | _, _, .cons n t h => ⟨rfl, ints_weak h⟩
section
variable {prog : Program} {w : World} {hB : BB} {A : Around} {env : Env} {Γ : G} {Hc : H} {mg mb : Str → Option Value} {f : Nat → Addr}
/-- a slice of a list that lies in the base -/
theorem Ev.sliceB {value : Expr} {lower upper : Option Expr} {p pos : Pos} {P : CV → H → Prop} {l : Addr} {vs : List Value} {ns : List Int} (hl : hB.heap.IsList l vs.toArray) (hi : IntsAre vs ns) (hlen : ns.length ≤ 1000000)
    (h : Ev prog w hB A env (eval value env) Γ Hc fun o H1 => EvO prog w hB A env lower Γ H1 fun lo H2 => EvO prog w hB A env upper Γ H2 fun hi H3 =>
      ∃ zs, o = .r l ∧ Pick (ns.map CV.w) lo hi zs ∧ ∀ a, H3 a = none → P (.r a) (upd H3 a (.list zs)))
    (ht : ∀ o r, letTemporaryGo value o r = pure () := by intro _ _; rfl) :
    Ev prog w hB A env (eval (.Subscript value (.Slice lower upper none p) pos) env) Γ Hc P := by
  intro τ s E C X
  refine wpAny_Subscript_list_slice ?_ ht
  refine wpAny_mono (h τ s E C X) (fun o s1 ⟨co, H1, τ1, ho, C1, S1, k⟩ => ?_) fun _ _ e => e
  refine wpAny_mono (k τ1 s1 E C1 (X.step C S1)) (fun vl s2 ⟨lo, H2, τ2, pl, C2, S2, k⟩ => ?_) fun _ _ e => e
  refine wpAny_mono (k τ2 s2 E C2 (X.step C (S1.trans0 S2))) (fun vu s3 ⟨hi', H3, τ3, pu, C3, S3, zs, el, hz, kk⟩ => ?_) fun _ _ e => e
  subst el
  have hL : s3.heap.IsList l vs.toArray := let ⟨o, ho, r⟩ := hl; ⟨o, C3.base _ _ ho, r⟩
  refine ⟨l, vs.toArray, lo, hi', is_r ho, hL, by rw [List.size_toArray, hi.length]; exact small_line hlen, pl, pu, ?_⟩
  have G4 := C3.grow (h' := s3.heap.push { cls := .type "slice", data := .fields #[vl, vu, .none] }) (fun b o e => Heap.get?_push_of_some _ e) (Nat.le_refl s3.toks)
  have e5 : s3.heap.objs.size + 1 = (s3.heap.push { cls := .type "slice", data := .fields #[vl, vu, .none] }).objs.size := (Heap.size_push _ _).symm
  rw [e5]
  have := Post.alloc (P := P) G4.1 (o := { cls := .type "list", data := .seq (slicePick vs.toArray lo hi' none) }) (co := .list zs)
    ⟨(slicePick vs.toArray lo hi' none).toList, ⟨0, Heap.get?_push_size _ rfl⟩, hz _ vs (ints_weak hi)⟩ (Nat.le_refl s3.toks) kk
  exact (this.step G4.2).step ((S1.trans0 S2).trans0 S3)
theorem law_spec (B : Base hB mg mb f) {l : Addr} {vs : List Value} {ns : List Int} {P : CV → H → Prop} (hl : hB.heap.IsList l vs.toArray) (hi : IntsAre vs ns) (hlen : ns.length ≤ 1000)
    (F : Lawful (walkN (ns.take 4 ++ [63, 25])).steps (walkN (ns.take 4 ++ [63, 25])).firsts (walkN (ns.take 4 ++ [63, 25])).parents (walkN (ns.take 4 ++ [63, 25])).weights) (h : ∀ H', P (.b true) H') (A : Around) (code : Value) (fr : Addr) (hR : Room (hB.deep fr) 3 A) :
    Ex prog w (hB.deep fr) A (envOfC (rec 21).name (rec 21).scope fr (f 21) code) (execs (rec 21).body (envOfC (rec 21).name (rec 21).scope fr (f 21) code)) (BindsC ["script"] [.r l]) Hc (endQ P) := by
  have B' := B.deep fr
  have hml : mg "len" = none := B.free _ (by decide +kernel) (by decide +kernel)
  have hmr : mg "range" = none := B.free _ (by decide +kernel) (by decide +kernel)
  have hms : mg "sum" = none := B.free _ (by decide +kernel) (by decide +kernel)
  have hmc : mg "chr" = none := B.free _ (by decide +kernel) (by decide +kernel)
  have hl' : (hB.deep fr).heap.IsList l vs.toArray := hl
  refine Ex.cons (Ex.assignTup (hR.less (by decide)) (Ev.callK (d := 1) B' 13 (by decide) (hR.less (by decide)) (EvL.cons (Ev.binop (Ev.sliceB hl' hi (by (clear h; omega)) (Ev.name (cv := .r l) (by rfl) (.inl (by rfl)) (EvO.nil (EvO.val (Ev.int ⟨_, rfl, _, rfl, pick_upto (by decide), fun s1 hs1 => ?_⟩)))))))))
  refine Ev.list (EvL.cons (Ev.int (EvL.cons (Ev.int (EvL.nil ⟨by simp, fun s2 hs2 => ?_⟩)))))
  have h12 : s1 ≠ s2 := by rintro rfl; rw [upd_self] at hs2; cases hs2
  refine Op2.addl (by rw [upd_ne _ _ h12]; exact upd_self ..) (upd_self ..) (by simp only [List.length_take, List.length_map, List.length_cons, List.length_nil]; (clear h h12; omega)) fun s3 hs3 => ?_
  refine EvL.nil (walk_spec B' (upd_self ..) (ns := ns.take 4 ++ [63, 25]) ?_ (by simp only [List.length_append, List.length_take, List.length_cons, List.length_nil]; (clear h h12; omega)) fun T a b c d H1 hE hT hn hnd hT1 ha hb hc hd => ?_)
  · unfold IsInts
    rw [← List.map_take, List.map_append, List.map_append, List.map_map]; rfl
  refine ⟨T, _, rfl, hT1, rfl, ?_⟩
  refine AsL.cons (As.name (AsL.cons (As.name (AsL.cons (As.name (AsL.cons (As.name (AsL.nil ?_))))))))
  refine (?_ : Ex _ _ _ _ _ _ _ _ _)
  generalize (walkN (ns.take 4 ++ [63, 25])).steps = steps at *
  generalize (walkN (ns.take 4 ++ [63, 25])).firsts = firsts at *
  generalize (walkN (ns.take 4 ++ [63, 25])).parents = ps at *
  generalize (walkN (ns.take 4 ++ [63, 25])).weights = ws at *
  have g : ∀ (x : Str) (cv : CV), (put (put (put (put (BindsC ["script"] [.r l]) "steps" (.r a)) "firsts" (.r b)) "parents" (.r c)) "weights" (.r d)) x = some cv → (put (put (put (put (BindsC ["script"] [.r l]) "steps" (.r a)) "firsts" (.r b)) "parents" (.r c)) "weights" (.r d)) x = some cv := fun _ _ h => h
  have ga := g "steps" (.r a) (by rfl)
  have gb := g "firsts" (.r b) (by rfl)
  have gc := g "parents" (.r c) (by rfl)
  have gd := g "weights" (.r d) (by rfl)
  clear g
  generalize (put (put (put (put (BindsC ["script"] [.r l]) "steps" (.r a)) "firsts" (.r b)) "parents" (.r c)) "weights" (.r d)) = Γ1 at *
  clear hE hT hn hnd hT1
  -- the whole walk's text
  refine Ex.cons (Ex.assign (Ev.join (Ev.comp2 (hR.less (by decide)) ⟨rfl, rfl, by decide, by decide, (by intro p hp; cases hp), by rfl, by rfl⟩ (It.list (Ev.name ga (.inl (by rfl)) ⟨a, _, rfl, ha, ?_⟩)))))
  refine ⟨fun i ys H' => Ext H1 H' ∧ ys = ((flat (steps.take i)).map one).map CV.s, ⟨Ext.refl _, rfl⟩, ?_, ?_⟩
  · rintro Ca i xi ys H' hx hok ⟨hE, rfl⟩
    obtain ⟨hi, rfl⟩ := cis_item hx
    refine It.list (Ev.callK (d := 1) B' 14 (by decide) (hR.less (by decide)) (EvL.cons (Ev.name (put_self ..) (.inl (by rfl)) (EvL.nil (octets_spec B' rfl (F.n5 _ (getD_mem hi)) fun r H2 hE2 hr0 hr => ⟨r, _, rfl, hr, ?_⟩)))))
    have hsm := F.small
    have hfs : flat (steps.take (i + 1)) = flat (steps.take i) ++ octs (steps.getD i 0) := by
      rw [take_succ_getD hi]; simp only [flat, List.flatMap_append, List.flatMap_cons, List.flatMap_nil, List.append_nil]
    have hle2 := flat_take_le steps (i + 1)
    rw [hfs, List.length_append] at hle2
    refine ⟨fun j zs H3 => H3 = H2 ∧ zs = ((flat (steps.take i) ++ (octs (steps.getD i 0)).take j).map one).map CV.s, ⟨rfl, by simp⟩, ?_, ?_⟩
    · rintro j xj zs H3 hxj hok3 ⟨rfl, rfl⟩
      obtain ⟨hj, rfl⟩ := cis_item hxj
      have hasc : (octs (steps.getD i 0)).getD j 0 < 128 := by
        refine F.ascii _ ?_
        have h1 : (octs (steps.getD i 0)).getD j 0 ∈ flat (steps.take (i + 1)) := by rw [hfs]; exact List.mem_append_right _ (getD_mem hj)
        have h2 : flat steps = flat (steps.take (i + 1)) ++ flat (steps.drop (i + 1)) := by rw [flat, flat, flat, ← List.flatMap_append, List.take_append_drop]
        rw [h2]; exact List.mem_append_left _ h1
      refine ⟨?_, ?_⟩
      · have : ((octs (steps.getD i 0)).take j).length ≤ (octs (steps.getD i 0)).length := by rw [List.length_take]; (clear hlen h h12 hi hsm hle2 hasc; omega)
        rw [List.length_map, List.length_map, List.length_append]; (clear hlen h h12 hi hj hasc; omega)
      refine Ev.callB (id := "chr") B'.toGl hmc (by kernel_rfl) (EvL.cons (Ev.name (put_self ..) (.inl (by rfl)) (EvL.nil (Bi.chr rfl (by (clear hlen h h12 hi hsm hle2 hj; omega)) (by (clear hlen h h12 hi hsm hle2 hj; omega)) ⟨hok3, rfl, ?_⟩))))
      rw [take_succ_getD hj, ← List.append_assoc, Int.toNat_natCast]; simp only [List.map_append]; rfl
    · rintro zs H3 ⟨rfl, rfl⟩
      refine ⟨hE2 _ _ hok, hE.trans hE2, ?_⟩
      have e : (octs (steps.getD i 0)).take (Src.list r (cis (octs (steps.getD i 0)))).items.length = octs (steps.getD i 0) := by simp [Src.items, cis]
      rw [e, hfs]
  rintro ys H' ⟨hE, rfl⟩ tl htl
  have eP : steps.take (Src.list a (cis steps)).items.length = steps := by rw [List.take_of_length_le (by simp [Src.items, cis])]
  rw [eP]
  have hE2 := hE.new htl (.list (((flat steps).map one).map CV.s))
  refine ⟨tl, (flat steps).map one, rfl, upd_self .., joinOk_ones F.small, ?_⟩
  rw [join_ones]
  refine (?_ : Ex _ _ _ _ _ _ _ _ _)
  have ga2 : (put Γ1 "text" (.s ⟨(flat steps).toArray⟩)) "steps" = some (.r a) := by rw [put_ne _ _ (by decide)]; exact ga
  have gb2 : (put Γ1 "text" (.s ⟨(flat steps).toArray⟩)) "firsts" = some (.r b) := by rw [put_ne _ _ (by decide)]; exact gb
  have gc2 : (put Γ1 "text" (.s ⟨(flat steps).toArray⟩)) "parents" = some (.r c) := by rw [put_ne _ _ (by decide)]; exact gc
  have gd2 : (put Γ1 "text" (.s ⟨(flat steps).toArray⟩)) "weights" = some (.r d) := by rw [put_ne _ _ (by decide)]; exact gd
  have gt2 : (put Γ1 "text" (.s ⟨(flat steps).toArray⟩)) "text" = some (.s ⟨(flat steps).toArray⟩) := put_self ..
  have ha2 := hE2 _ _ ha
  have hb2 := hE2 _ _ hb
  have hc2 := hE2 _ _ hc
  have hd2 := hE2 _ _ hd
  generalize put Γ1 "text" (.s ⟨(flat steps).toArray⟩) = Γ2 at *
  generalize upd H' tl _ = H2 at *
  clear ga gb gc gd ha hb hc hd hE hE2
  refine Ex.cons (Ex.if (Tr.compare (Ev.callK (d := 2) B' 2 (by decide) (hR.less (by decide)) (EvL.cons (Ev.name gt2 (.inl (by rfl)) (EvL.nil (check_spec B' (x := ⟨(flat steps).toArray⟩) F.quote (by simpa using F.ascii) F.esc (Ev.bool (Op2.isNotb ⟨_, rfl, ?_⟩)))))))))
  have eC : (chkY 0 (genY false (⟨(flat steps).toArray⟩ : Str).cps.toList) != true) = false := by
    show (chkY 0 (genY false (flat steps)) != true) = false
    rw [F.chk]; rfl
  rw [eC]
  refine (?_ : Ex _ _ _ _ _ _ _ _ _)
  refine Ex.nil ?_
  refine (?_ : Ex _ _ _ _ _ _ _ _ _)
  -- the table
  have n0 := F.n0
  have n4 := F.n4
  have n3 := F.n3
  refine Ex.cons (Ex.assign (Ev.callK (d := 3) B' 19 (by decide) hR (EvL.cons (Ev.name ga2 (.inl (by rfl)) (EvL.cons (Ev.name gb2 (.inl (by rfl)) (EvL.cons (Ev.name gc2 (.inr (by rfl)) (EvL.cons (Ev.name gd2 (.inl (by rfl)) (EvL.nil (table_spec B' ha2 hb2 hc2 hd2 F.n1 F.n2 F.n3 (by (clear hlen h h12; omega)) F.n5 F.ord F.pair fun R as H3 hE3 mat => ?_))))))))))))
  have gR3 : (put Γ2 "table" (.r R)) "table" = some (.r R) := put_self ..
  have gc3 : (put Γ2 "table" (.r R)) "parents" = some (.r c) := by rw [put_ne _ _ (by decide)]; exact gc2
  have gd3 : (put Γ2 "table" (.r R)) "weights" = some (.r d) := by rw [put_ne _ _ (by decide)]; exact gd2
  have hc3 := hE3 _ _ hc2
  have hd3 := hE3 _ _ hd2
  refine (?_ : Ex _ _ _ _ _ _ _ _ _)
  generalize put Γ2 "table" (.r R) = Γ3 at *
  clear ga2 gb2 gc2 gd2 gt2 ha2 hb2 hc2 hd2 hE3
  have hal := mat.len
  refine Ex.cons (Ex.if (Tr.compare (Ev.name gR3 (.inl (by rfl)) (Ev.list (EvL.nil ⟨by simp, fun el hel => ?_⟩)))))
  have mat4 := mat.ext ((Ext.refl H3).new hel (.list []))
  have hc4 := (Ext.refl H3).new hel (.list []) _ _ hc3
  have hd4 := (Ext.refl H3).new hel (.list []) _ _ hd3
  refine Op2.eqNoTable (hR.less (by decide)) mat4.list ?_ (upd_self ..) ⟨_, rfl, ?_⟩
  · intro x hx
    obtain ⟨y, hy, rfl⟩ := List.mem_map.mp hx
    obtain ⟨j, hj, rfl⟩ := List.getElem_of_mem hy
    refine ⟨as[j], _, (List.range ps.length).map (tabN steps firsts j), rfl, mat4.row j hj, ?_⟩
    unfold IsInts rowL
    rw [List.map_map, List.map_map]; rfl
  have eT : (as.map CV.r).isEmpty = false := by
    cases as with
    | nil => simp at hal; (clear hlen h h12; omega)
    | cons => rfl
  rw [eT]
  refine (?_ : Ex _ _ _ _ _ _ _ _ _)
  refine Ex.nil ?_
  refine (?_ : Ex _ _ _ _ _ _ _ _ _)
  generalize upd H3 el _ = H4 at *
  clear mat hc3 hd3
  -- the whole
  refine Ex.cons (Ex.assign (Ev.callB (id := "sum") B'.toGl hms (by kernel_rfl) (EvL.cons (Ev.name gd3 (.inl (by rfl)) (EvL.nil (Bi.sum (hR.less (by decide)) hd4 (cis_isInts _) ?_))))))
  have esum : (ws.map Int.ofNat).sum = ((ws.sum : Nat) : Int) := by
    generalize ws = z
    induction z with
    | nil => rfl
    | cons x r ih => rw [List.map_cons, List.sum_cons, ih, List.sum_cons]; rfl
  rw [esum]
  have gR5 : (put Γ3 "whole" (.w ((ws.sum : Nat) : Int))) "table" = some (.r R) := by rw [put_ne _ _ (by decide)]; exact gR3
  have gc5 : (put Γ3 "whole" (.w ((ws.sum : Nat) : Int))) "parents" = some (.r c) := by rw [put_ne _ _ (by decide)]; exact gc3
  have gd5 : (put Γ3 "whole" (.w ((ws.sum : Nat) : Int))) "weights" = some (.r d) := by rw [put_ne _ _ (by decide)]; exact gd3
  have gw5 : (put Γ3 "whole" (.w ((ws.sum : Nat) : Int))) "whole" = some (.w ((ws.sum : Nat) : Int)) := put_self ..
  refine (?_ : Ex _ _ _ _ _ _ _ _ _)
  generalize put Γ3 "whole" _ = Γ5 at *
  clear gR3 gc3 gd3
  -- the ends
  refine Ex.cons (Ex.assign (Ev.comp (hR.less (by decide)) ⟨rfl, rfl, by decide, by decide, (List.forall_mem_cons.mpr ⟨rfl, by intro p hp; cases hp⟩), by rfl, by rfl⟩ (It.range1 B'.toGl hmr (Ev.callB (id := "len") B'.toGl hml (by kernel_rfl) (EvL.cons (Ev.name gc5 (.inr (by rfl)) (EvL.nil (Bi.len hc4 (by simp only [cis, List.length_map]; (clear hlen h h12 esum; omega)) ⟨_, rfl, by (clear hlen h h12 n0 n4 n3 hal esum; omega), by simp only [cis, List.length_map]; (clear hlen h h12 esum; omega), ?_⟩))))))))
  rw [show (((cis ps).length : Nat) : Int).toNat = ps.length by simp [cis]]
  refine ⟨fun i ys H' => Ext H4 H' ∧ ys = rowL i (endI ps), ⟨Ext.refl _, rfl⟩, ?_, ?_⟩
  · rintro Ca i xi ys H' hx - ⟨hE, rfl⟩
    obtain ⟨hi, rfl⟩ := range_item hx
    rw [Int.zero_add]
    refine ⟨by rw [rowL_len]; (clear hlen h h12 esum; omega), ?_⟩
    refine (?_ : Ev _ _ _ _ _ _ _ _ _)
    refine Ev.binop (Ev.binop (Ev.int (Ev.callK (d := 1) B' 11 (by decide) (hR.less (by decide)) (EvL.cons (Ev.slice (Ev.name (by rw [put_ne _ _ (by decide)]; exact compG_get (by rfl) gc5) (.inr (by rfl)) (EvO.val (Ev.int ⟨1, rfl, EvO.nil ⟨c, _, _, rfl, hE _ _ hc4, by simp only [cis, List.length_map]; (clear hlen h h12 esum hi; omega), pick_from (by decide), fun sl hsl => ?_⟩⟩))))))))
    rw [show (1 : Int).toNat = 1 from rfl, cis_drop]
    refine EvL.cons (Ev.name (put_self ..) (.inl (by rfl)) (EvL.nil (countOf_spec B' (upd_self ..) (fun n hn => F.n7 n (List.mem_of_mem_drop hn)) (Op2.subi (a := 2) (b := (((ps.drop 1).count i : Nat) : Int)) ?_))))
    have fin : ∀ m : Int, m = (if 0 < i then 1 else 0) → rowL i (endI ps) ++ [.i (2 - (((ps.drop 1).count i : Nat) : Int) - m)] = rowL (i + 1) (endI ps) := fun m hm => by rw [rowL_succ, hm]; rfl
    refine Ev.ifexp (Tr.compare (Ev.name (put_self ..) (.inl (by rfl)) (Ev.int (Op2.gtN (b := 0) ⟨_, rfl, ?_⟩))))
    by_cases q : 0 < i
    · rw [decide_eq_true q]
      refine (?_ : Ev _ _ _ _ _ _ _ _ _)
      exact Ev.int (Op2.subi ⟨trivial, hE.new hsl _, fin 1 (by rw [if_pos q])⟩)
    · rw [decide_eq_false q]
      refine (?_ : Ev _ _ _ _ _ _ _ _ _)
      exact Ev.int (Op2.subi ⟨trivial, hE.new hsl _, fin 0 (by rw [if_neg q])⟩)
  rintro ys H5 ⟨hE5, rfl⟩ E hE0
  rw [show (Src.range 0 ps.length).items.length = ps.length by simp [Src.items]]
  have hE6 := hE5.new hE0 (.list (rowL ps.length (endI ps)))
  have he6 : (upd H5 E (.list (rowL ps.length (endI ps)))) E = some (.list (rowL ps.length (endI ps))) := upd_self ..
  have gR6 : (put Γ5 "ends" (.r E)) "table" = some (.r R) := by rw [put_ne _ _ (by decide)]; exact gR5
  have gc6 : (put Γ5 "ends" (.r E)) "parents" = some (.r c) := by rw [put_ne _ _ (by decide)]; exact gc5
  have gd6 : (put Γ5 "ends" (.r E)) "weights" = some (.r d) := by rw [put_ne _ _ (by decide)]; exact gd5
  have gw6 : (put Γ5 "ends" (.r E)) "whole" = some (.w ((ws.sum : Nat) : Int)) := by rw [put_ne _ _ (by decide)]; exact gw5
  have ge6 : (put Γ5 "ends" (.r E)) "ends" = some (.r E) := put_self ..
  refine (?_ : Ex _ _ _ _ _ _ _ _ _)
  generalize put Γ5 "ends" _ = Γ6 at *
  have mat6 := mat4.ext hE6
  have hc6 := hE6 _ _ hc4
  have hd6 := hE6 _ _ hd4
  generalize upd H5 E _ = H6 at *
  clear gR5 gc5 gd5 gw5 hE5 hc4 hd4 mat4
  -- the rows
  refine Ex.cons (Ex.for (hR.less (by decide)) (It.list (Ev.name gR6 (.inl (by rfl)) ⟨R, _, rfl, mat6.list, ?_⟩)))
  refine ⟨fun i Γ' H' => Ext H6 H' ∧ Γ' "table" = some (.r R) ∧ Γ' "parents" = some (.r c) ∧ Γ' "weights" = some (.r d) ∧ Γ' "whole" = some (.w ((ws.sum : Nat) : Int)) ∧ Γ' "ends" = some (.r E), ⟨Ext.refl _, gR6, gc6, gd6, gw6, ge6⟩, ?_, ?_⟩
  · rintro i xi Γ' H' hx hok ⟨hE, g1, g2, g3, g4, g5⟩
    obtain ⟨hi, hx⟩ := list_item hx
    rw [List.length_map] at hi
    have exi : xi = .r as[i] := by simpa [hi] using hx.symm
    subst exi
    have hin : i < ps.length := by (clear hlen h h12 n0 n4 esum; omega)
    have hrow := hE _ _ (mat6.row i hi)
    have he := hE _ _ he6
    have k1 : (put Γ' "row" (.r as[i])) "table" = some (.r R) := by rw [put_ne _ _ (by decide)]; exact g1
    have k2 : (put Γ' "row" (.r as[i])) "parents" = some (.r c) := by rw [put_ne _ _ (by decide)]; exact g2
    have k3 : (put Γ' "row" (.r as[i])) "weights" = some (.r d) := by rw [put_ne _ _ (by decide)]; exact g3
    have k4 : (put Γ' "row" (.r as[i])) "whole" = some (.w ((ws.sum : Nat) : Int)) := by rw [put_ne _ _ (by decide)]; exact g4
    have k5 : (put Γ' "row" (.r as[i])) "ends" = some (.r E) := by rw [put_ne _ _ (by decide)]; exact g5
    have k6 : (put Γ' "row" (.r as[i])) "row" = some (.r as[i]) := put_self ..
    generalize put Γ' "row" (.r as[i]) = Γ7 at *
    refine Ex.one (Ex.if (Tr.compare (Ev.callB (id := "sum") B'.toGl hms (by kernel_rfl) (EvL.cons (Ev.comp (hR.less (by decide)) ⟨rfl, rfl, by decide, by decide, (List.forall_mem_cons.mpr ⟨rfl, List.forall_mem_cons.mpr ⟨rfl, by intro p hp; cases hp⟩⟩), by rfl, by rfl⟩
      (It.range1 B'.toGl hmr (Ev.callB (id := "len") B'.toGl hml (by kernel_rfl) (EvL.cons (Ev.name k5 (.inr (by rfl)) (EvL.nil (Bi.len he (by rw [rowL_len]; (clear hlen h h12 esum hin; omega)) ⟨_, rfl, by (clear hlen h h12 n0 n4 n3 hal esum hin; omega), by rw [rowL_len]; (clear hlen h h12 esum hin; omega), ?_⟩)))))))))))
    rw [rowL_len, Int.toNat_natCast]
    refine ⟨fun j ys H'' => H'' = H' ∧ ys = rowL j fun v => tabN steps firsts i v * endI ps v, ⟨rfl, rfl⟩, ?_, ?_⟩
    · rintro Ca j xj ys H'' hxj - ⟨rfl, rfl⟩
      obtain ⟨hj, rfl⟩ := range_item hxj
      rw [Int.zero_add]
      refine ⟨by rw [rowL_len]; (clear hlen h h12 esum hin; omega), ?_⟩
      refine (?_ : Ev _ _ _ _ _ _ _ _ _)
      have q1 : (rowL ps.length (tabN steps firsts i))[((j : Nat) : Int).toNat]? = some (.i (tabN steps firsts i j)) := by rw [Int.toNat_natCast]; exact rowL_get _ hj
      have q2 : (rowL ps.length (endI ps))[((j : Nat) : Int).toNat]? = some (.i (endI ps j)) := by rw [Int.toNat_natCast]; exact rowL_get _ hj
      refine Ev.callK (d := 1) B' 6 (by decide) (hR.less (by decide)) (EvL.cons (Ev.subscript (Ev.name (by rw [put_ne _ _ (by decide)]; exact compG_get (by rfl) k6) (.inr (by rfl)) (Ev.name (put_self ..) (.inl (by rfl)) ⟨as[i], _, rfl, hrow, Op2.item hrow (by (clear hlen h h12 n0 n4 n3 hal esum hin hj; omega)) (by (clear hlen h h12 esum hin; omega)) q1 ?_ rfl⟩))))
      refine EvL.cons (Ev.subscript (Ev.name (by rw [put_ne _ _ (by decide)]; exact compG_get (by rfl) k5) (.inr (by rfl)) (Ev.name (put_self ..) (.inl (by rfl)) ⟨E, _, rfl, he, Op2.item he (by (clear hlen h h12 n0 n4 n3 hal esum hin hj; omega)) (by (clear hlen h h12 esum hin; omega)) q2 ?_ rfl⟩)))
      refine EvL.nil (mul_spec B' rfl rfl (mul_ok (Nat.lt_of_lt_of_le (F.bnd i j hin hj) (by decide)) (endI_lt n4 j)) ⟨trivial, rfl, ?_⟩)
      rw [rowL_succ]
    rintro ys H'' ⟨rfl, rfl⟩ al hal2
    rw [show (Src.range 0 ps.length).items.length = ps.length by simp [Src.items]]
    refine EvL.nil (Bi.sum (hR.less (by decide)) (upd_self ..) (rowL_ints _ _) (Ev.name k4 (.inl (by rfl)) (Op2.nei ⟨_, rfl, ?_⟩)))
    rw [F.row i hin, bne_self_eq_false]
    refine (?_ : Ex _ _ _ _ _ _ _ _ _)
    exact Ex.nil ⟨upd_new hok hal2, hE.new hal2 _, k1, k2, k3, k4, k5⟩
  rintro Γ7 H7 ⟨hE7, g1, g2, g3, g4, -⟩
  have mat7 := mat6.ext hE7
  have hc7 := hE7 _ _ hc6
  have hd7 := hE7 _ _ hd6
  clear gR6 gc6 gd6 gw6 ge6 mat6 hc6 hd6 he6 hE6 hE7
  -- the product
  refine Ex.cons (Ex.assign (Ev.int ?_))
  have k1 : (put Γ7 "product" (.i 1)) "table" = some (.r R) := by rw [put_ne _ _ (by decide)]; exact g1
  have k2 : (put Γ7 "product" (.i 1)) "parents" = some (.r c) := by rw [put_ne _ _ (by decide)]; exact g2
  have k3 : (put Γ7 "product" (.i 1)) "weights" = some (.r d) := by rw [put_ne _ _ (by decide)]; exact g3
  have k4 : (put Γ7 "product" (.i 1)) "whole" = some (.w ((ws.sum : Nat) : Int)) := by rw [put_ne _ _ (by decide)]; exact g4
  have k5 : (put Γ7 "product" (.i 1)) "product" = some (.i 1) := put_self ..
  refine (?_ : Ex _ _ _ _ _ _ _ _ _)
  generalize put Γ7 "product" (.i 1) = Γ8 at *
  refine Ex.cons (Ex.for (hR.less (by decide)) (It.list (Ev.slice (Ev.name k3 (.inl (by rfl)) (EvO.val (Ev.int ⟨1, rfl, EvO.nil ⟨d, _, _, rfl, hd7, by simp only [cis, List.length_map]; (clear hlen h h12 esum; omega), pick_from (by decide), fun sl hsl => ⟨sl, _, rfl, upd_self .., ?_⟩⟩⟩))))))
  rw [show (1 : Int).toNat = 1 from rfl, cis_drop]
  have hE8 := (Ext.refl H7).new hsl (.list (cis (ws.drop 1)))
  have mat8 := mat7.ext hE8
  have hc8 := hE8 _ _ hc7
  generalize upd H7 sl _ = H8 at *
  clear mat7 hc7 hd7 hE8
  refine ⟨fun i Γ' H' => H' = H8 ∧ Γ' "table" = some (.r R) ∧ Γ' "parents" = some (.r c) ∧ Γ' "whole" = some (.w ((ws.sum : Nat) : Int)) ∧ Γ' "product" = some (.i (prodI ((ws.drop 1).take i))), ⟨rfl, k1, k2, k4, k5⟩, ?_, ?_⟩
  · rintro i xi Γ' H' hx hok ⟨rfl, j1, j2, j3, j4⟩
    obtain ⟨hi, rfl⟩ := cis_item hx
    have hts := take_succ_getD hi
    have hw : ∀ w ∈ (ws.drop 1).take i, w < 2 ^ 21 := fun w hw => F.n6 w (List.mem_of_mem_drop (List.mem_of_mem_take hw))
    have hb1 := prodI_lt hw
    have hb2 := F.n6 _ (List.mem_of_mem_drop (getD_mem hi))
    rw [List.length_drop] at hi
    have hb3 : (prodI ((ws.drop 1).take i)).natAbs < 2 ^ 1000 := by
      refine Nat.lt_of_le_of_lt hb1 (Nat.pow_lt_pow_right (by decide) ?_)
      rw [List.length_take]; (clear hlen h h12 esum hw hb1 hb2; omega)
    generalize (ws.drop 1).getD i 0 = x at *
    refine Ex.one (Ex.assign (Ev.binop (Ev.name (by rw [put_ne _ _ (by decide)]; exact j4) (.inl (by rfl)) (Ev.name (put_self ..) (.inl (by rfl)) (Op2.muli (b := (x : Int)) (mul_ok hb3 (by rw [Int.natAbs_natCast]; exact Nat.lt_of_lt_of_le hb2 (by decide))) ?_ rfl rfl)))))
    refine ⟨hok, rfl, by rw [put_ne _ _ (by decide), put_ne _ _ (by decide)]; exact j1, by rw [put_ne _ _ (by decide), put_ne _ _ (by decide)]; exact j2, by rw [put_ne _ _ (by decide), put_ne _ _ (by decide)]; exact j3, ?_⟩
    rw [put_self, hts, prodI_snoc]
  rintro Γ9 H9 ⟨rfl, j1, j2, j3, j4⟩
  rw [List.take_of_length_le (by simp [Src.items, cis])] at j4
  clear g1 g2 g3 g4 k1 k2 k3 k4 k5
  refine Ex.cons (Ex.assign (Ev.binop (Ev.callB (id := "len") B'.toGl hml (by kernel_rfl) (EvL.cons (Ev.name j2 (.inr (by rfl)) (EvL.nil (Bi.len hc8 (by simp only [cis, List.length_map]; (clear hlen h h12 esum; omega)) (Ev.int (Op2.subi (b := 1) ?_)))))))))
  rw [show (((cis ps).length : Nat) : Int) - 1 = ((ps.length - 1 : Nat) : Int) by simp only [cis, List.length_map]; (clear hlen h h12 esum; omega)]
  have k1 : (put Γ9 "edges" (.i ((ps.length - 1 : Nat) : Int))) "table" = some (.r R) := by rw [put_ne _ _ (by decide)]; exact j1
  have k3 : (put Γ9 "edges" (.i ((ps.length - 1 : Nat) : Int))) "whole" = some (.w ((ws.sum : Nat) : Int)) := by rw [put_ne _ _ (by decide)]; exact j3
  have k4 : (put Γ9 "edges" (.i ((ps.length - 1 : Nat) : Int))) "product" = some (.i (prodI (ws.drop 1))) := by rw [put_ne _ _ (by decide)]; exact j4
  have k5 : (put Γ9 "edges" (.i ((ps.length - 1 : Nat) : Int))) "edges" = some (.i ((ps.length - 1 : Nat) : Int)) := put_self ..
  refine (?_ : Ex _ _ _ _ _ _ _ _ _)
  generalize put Γ9 "edges" _ = Γ10 at *
  clear j1 j2 j3 j4
  refine Ex.one (Ex.ret (Ev.compare (Ev.callK (d := 2) B' 20 (by decide) (hR.less (by decide)) (EvL.cons (Ev.name k1 (.inl (by rfl)) (EvL.nil (worth_spec B' mat8.list hal mat8.row (by (clear hlen h h12 esum; omega)) (by (clear hlen h h12 esum; omega)) F.worth fun H10 hE10 => ?_)))))))
  refine (?_ : Ev _ _ _ _ _ _ _ _ _)
  have b1 : ∀ e : Fin 10, ((-1 : Int) ^ e.val).natAbs ≤ 1 := by decide
  have b2 : ∀ e : Fin 10, ((2 : Int) ^ e.val).natAbs ≤ 512 := by decide
  have c1 := b1 ⟨ps.length - 1, by (clear hlen h h12 esum b1 b2; omega)⟩
  have c2 := b2 ⟨ps.length - 2, by (clear hlen h h12 esum b1 b2 c1; omega)⟩
  simp only at c1 c2
  have c3 : (prodI (ws.drop 1)).natAbs ≤ 2 ^ 210 := by
    refine Nat.le_trans (prodI_lt fun w hw => F.n6 w (List.mem_of_mem_drop hw)) (Nat.pow_le_pow_right (by decide) ?_)
    rw [List.length_drop]; (clear hlen h h12 esum b1 b2 c1 c2; omega)
  have c4 : ws.sum ≤ 10 * 2 ^ 21 := by
    have : ∀ l : List Nat, (∀ w ∈ l, w < 2 ^ 21) → l.sum ≤ l.length * 2 ^ 21 := by
      intro l
      induction l with
      | nil => intro _; simp
      | cons a r ih =>
        intro h
        have h1 := ih fun w hw => h w (List.mem_cons_of_mem _ hw)
        have h2 := h a (List.mem_cons_self ..)
        rw [List.sum_cons, List.length_cons]; (clear hlen h12 n0 n4 n3 hal esum b1 b2 c1 c2 c3 ih h; omega)
    have h1 := this ws F.n6
    exact Nat.le_trans h1 (Nat.mul_le_mul_right _ (by (clear hlen h h12 esum b1 b2 c1 c2 c3 h1; omega)))
  have d1 : ((-1 : Int) ^ (ps.length - 1) * 2 ^ (ps.length - 2)).natAbs ≤ 512 := by
    rw [Int.natAbs_mul]
    exact Nat.mul_le_mul c1 c2
  have d2 : ((-1 : Int) ^ (ps.length - 1) * 2 ^ (ps.length - 2) * prodI (ws.drop 1)).natAbs ≤ 512 * 2 ^ 210 := by
    rw [Int.natAbs_mul]
    exact Nat.mul_le_mul d1 c3
  have i1 : Builtin.Int.intBits (-1) ≤ 1 := bits_int (by decide)
  have i2 : Builtin.Int.intBits 2 ≤ 2 := bits_int (by decide)
  have hz : ∀ (m k : Nat) (e : Nat), m ≤ k → e ≤ 9 → k ≤ 2 → ((m : Nat) : Int) * ((e : Nat) : Int) ≤ 2 ^ 27 := by
    intro m k e h1 h2 h3
    have : m * e ≤ 2 * 9 := Nat.mul_le_mul (by (clear hlen h h12 n0 n4 n3 hal esum b1 b2 c1 c2 c3 c4 d1 d2 i1 i2 h2; omega)) h2
    rw [← Int.natCast_mul]; (clear hlen h h12 n0 n4 n3 hal esum b1 b2 c1 c2 c3 c4 d1 d2 i1 i2 h1 h2 h3; omega)
  refine Ev.binop (Ev.binop (Ev.binop (Ev.binop (Ev.neg (Ev.int ⟨1, rfl, Ev.name k5 (.inl (by rfl)) (Op2.powi (a := -1) (b := ((ps.length - 1 : Nat) : Int)) (by (clear hlen h h12 n0 n4 n3 hal esum b1 b2 c1 c2 c3 c4 d1 d2 i1 i2 hz; omega)) (hz _ 1 _ i1 (by (clear hlen h h12 esum b1 b2 c1 c2 c3 c4 d1 d2 i1 i2 hz; omega)) (by decide)) ?_)⟩)))))
  rw [Int.toNat_natCast]
  refine Ev.binop (Ev.int (Ev.binop (Ev.name k5 (.inl (by rfl)) (Ev.int (Op2.subi (b := 1) ?_)))))
  rw [show ((ps.length - 1 : Nat) : Int) - 1 = ((ps.length - 2 : Nat) : Int) by (clear hlen h h12 esum b1 b2 c1 c2 c3 c4 d1 d2 i1 i2 hz; omega)]
  refine Op2.powi (a := 2) (b := ((ps.length - 2 : Nat) : Int)) (by (clear hlen h h12 n0 n4 n3 hal esum b1 b2 c1 c2 c3 c4 d1 d2 i1 i2 hz; omega)) (hz _ 2 _ i2 (by (clear hlen h h12 esum b1 b2 c1 c2 c3 c4 d1 d2 i1 i2 hz; omega)) (by decide)) ?_
  rw [Int.toNat_natCast]
  refine Op2.muli (mul_ok (Nat.lt_of_le_of_lt c1 (by decide)) (Nat.lt_of_le_of_lt c2 (by decide))) (Ev.name k4 (.inl (by rfl)) (Op2.muli (mul_ok (Nat.lt_of_le_of_lt d1 (by decide)) (Nat.lt_of_le_of_lt c3 (by decide))) (Ev.name k3 (.inl (by rfl)) (Op2.muli (mul_ok (Nat.lt_of_le_of_lt d2 (by decide)) (by rw [Int.natAbs_natCast]; exact Nat.lt_of_le_of_lt c4 (by decide))) (Op2.eqi ?_)))))
  rw [beq_self_eq_true]
  exact h _
end
end Mine

set_option maxRecDepth 100000
set_option maxHeartbeats 2000000
namespace Mine
/-- a call's names, and that a token is spent -/
theorem newEnv_one {M : Model} {A : Around} {E : Value → Shared → Prop} {s : Shared} {scope : Scope} {globals : Addr} {x : Str} {v : Value} {qual : Str} {func : Option Addr} {code : Value} {builtins : Addr} {Q : Env → Shared → Prop}
    (hk : scope.kind = .function) (hx : scope.names.lookup x = some .local)
    (hQ : ∀ env, env = newEnv scope s.heap.objs.size globals (cellsFrom (s.heap.objs.size + 1) scope.names []) qual func code none builtins →
      ∀ s', InCallC s env.locals (fun y => if y = x then some v else none) env.cells (fun _ => none) s' → s.toks < s'.toks → Q env s') :
    wpAny M A (newFunctionEnv scope globals [] [(x, v)] qual func code none builtins) Q E s := by
  simp only [newFunctionEnv, Option.isSome_none, Bool.false_eq_true, if_false]
  refine wpAny_bind (wpAny_alloc ?_)
  refine wpAny_bind (wpAny_layCells _ (fun name kind cells => by cases hkc : kind == NameKind.cell <;> simp [hkc]) _ _ _ _ ?_)
  have ok := cellsFrom_ok scope.names (s.heap.push { cls := .type "frame", data := .dict #[] }) (s.heap.objs.size + 1) [] ⟨fun _ _ hm => (nomatch hm), List.Pairwise.nil⟩ (by rw [Heap.size_push]; exact Nat.le_refl _)
  rw [Heap.size_push] at ok
  rw [show ({ s with heap := s.heap.push { cls := .type "frame", data := .dict #[] } } : Shared).heap.objs.size = s.heap.objs.size + 1 from Heap.size_push ..]
  rw [List.forIn_cons]
  have X0 : InCallC s (newEnv scope s.heap.objs.size globals (cellsFrom (s.heap.objs.size + 1) scope.names []) qual func code none builtins).locals (fun _ => none) (newEnv scope s.heap.objs.size globals (cellsFrom (s.heap.objs.size + 1) scope.names []) qual func code none builtins).cells (fun _ => none) { s with heap := pushCells (s.heap.push { cls := .type "frame", data := .dict #[] }) scope.names } :=
    ⟨⟨⟨_, _, rfl⟩, (Heap.Ns.new s.heap (.type "frame")).keeps (pushCells_keeps _ _), fun b o e => pushCells_keeps _ _ b o (Heap.get?_push_of_some _ e), Nat.le_refl _⟩,
      fun n c hc => (ok.empty n c (mem_of_lookup hc)).1, ok.apart, fun n c hm => (ok.empty n c hm).2⟩
  refine wpAny_bind (wpAny_bind (wpAny_bind (wpAny_storeName_local (env := newEnv scope s.heap.objs.size globals (cellsFrom (s.heap.objs.size + 1) scope.names []) qual func code none builtins) hx X0.toInCall.ns (fun h' hn' hs' => ?_) (by rw [show (newEnv scope s.heap.objs.size globals (cellsFrom (s.heap.objs.size + 1) scope.names []) qual func code none builtins).scope.kind = .function from hk]; rfl))))
  refine wpAny_pure ?_
  refine wpAny_pure (wpAny_pure (hQ _ rfl _ ⟨⟨⟨_, _, rfl⟩, hn', fun b o e => ?_, X0.toInCall.fresh⟩, fun k c hc => ?_, X0.apart, X0.above⟩ (Nat.lt_succ_self _)))
  · exact hs'.extBut b o (Nat.ne_of_lt (Nat.lt_of_lt_of_le (Heap.lt_size e) X0.toInCall.fresh)) (X0.toInCall.keep b o e)
  · exact (X0.cell k c hc).sameBut hs' (Nat.ne_of_gt (X0.above k c (mem_of_lookup hc)))
section
variable {prog : Program} {w : World} {hB : BB} {mg mb : Str → Option Value} {f : Nat → Addr}
theorem enter_one {d : DefRec} {a : Addr} {k : Nat} {x : Str} {l : Addr} {P : CV → H → Prop} {A : Around} {s : Shared} (L : Gl hB mg mb) (F : FnIs hB mg d a) (hfs : hB.fs = []) (hR : Room hB (k + 1) A) (hs : ∀ b o, hB.get? b = some o → s.heap.get? b = some o)
    (h : ∀ (A : Around) (code : Value) (fr : Addr), Room (hB.deep fr) k A → Ex prog w (hB.deep fr) A (envOfC d.name d.scope fr a code) (execs d.body (envOfC d.name d.scope fr a code)) (BindsC [x] [.r l]) noH (endQ P))
    (hbind : ∀ (v pm code doc : Value), bindArgs (docDef d.name d.params d.body d.scope pm code doc) ⟨[v], []⟩ = pure [(x, v)])
    (hloc : d.scope.names.lookup x = some .local)
    (hnd : ((cellsFrom 0 d.scope.names []).map (·.1)).Nodup := by decide)
    (hco : d.scope.isCoroutine = false := by rfl) (hgen : d.scope.isGenerator = false := by rfl) (hk : d.scope.kind = .function := by rfl) :
    codeAny (model prog w) A (.call (.ref a) ⟨[.ref l], []⟩) (fun r s' => ∃ v, r = .ok (.ret v) ∧ Post hB noH ⟨fun _ => 0, 0⟩ s P v s') s := by
  obtain ⟨o, pm, code, doc, hm, ho, hd, hcd⟩ := F
  have hdead := fresh_none s.heap
  have hfar : ∀ c, s.heap.objs.size ≤ c → s.heap.get? c = none := fun c hc => by
    cases q : s.heap.get? c with
    | none => rfl
    | some o => exact absurd (Heap.lt_size q) (Nat.not_lt.mpr hc)
  have hlim : s.heap.NoLimit := L.lim.keeps hs
  refine codeAny_call_function hR.depth (hs _ _ ho) hd hco hgen rfl (hcd.keeps hs) ?_
  rw [hbind (.ref l) pm code doc]
  refine wpAny_pure (newEnv_one hk hloc fun env he s1 X htk => ?_)
  subst he
  refine ⟨hlim.keeps X.toInCall.keep, codeAny_func ?_⟩
  show wpAny _ (A.deeper (envOfC d.name d.scope s.heap.objs.size a code)) (execs d.body (envOfC d.name d.scope s.heap.objs.size a code)) _ _ s1
  obtain ⟨h1, tk, es⟩ := X.toInCall.same
  have hkeep := X.toInCall.keep
  subst es
  have hoff : ∀ b, s.heap.get? b = none → hB.get? b = none := fun b hb => by
    cases e : hB.get? b with
    | none => rfl
    | some o => rw [hs b o e] at hb; cases hb
  have C1 : Cur (hB.deep s.heap.objs.size) noH ⟨fun _ => 0, tk⟩ { s with heap := h1, toks := tk } := by
    refine ⟨Nat.lt_of_le_of_lt (Nat.zero_le _) htk, Nat.le_refl _, fun b o e => hkeep b o (hs b o e), fun _ _ _ => rfl, fun a co e => (by cases e), fun L' hL' => ?_⟩
    have e : L' = s.heap.objs.size := by
      rcases List.mem_cons.mp hL' with q | q
      · exact q
      · rw [hfs] at q; cases q
    subst e
    obtain ⟨o', es, ep, ho', hd', _⟩ := X.toInCall.ns
    exact ⟨o', ho', es, ep, hd'⟩
  have S1 : Step [] noH noH ⟨fun _ => 0, 0⟩ ⟨fun _ => 0, tk⟩ s { s with heap := h1, toks := tk } :=
    ⟨⟨Nat.zero_le _, fun t ht => absurd ht (Nat.not_lt_zero _)⟩, rfl, fun _ _ h => h, fun h => h, fun b o e _ _ => like (hkeep b o e), fun _ _ _ h => h, fun b o e => ⟨o, hkeep b o e⟩⟩
  have hcells : ((cellsFrom (s.heap.objs.size + 1) d.scope.names []).map (·.1)).Nodup := by rw [cellsFrom_names d.scope.names (s.heap.objs.size + 1) 0 [] [] rfl]; exact hnd
  have hnew : ∀ b ∈ ownOf (envOfC d.name d.scope s.heap.objs.size a code), s.heap.get? b = none := fun b hb => by
    rcases List.mem_cons.mp hb with rfl | hb
    · exact hdead
    · obtain ⟨⟨y, c⟩, hp, rfl⟩ := List.mem_map.mp hb
      exact hfar _ (Nat.le_of_lt (X.above y c hp))
  have X1 : EnvAt (hB.deep s.heap.objs.size) (envOfC d.name d.scope s.heap.objs.size a code) (BindsC [x] [.r l]) ⟨fun _ => 0, tk⟩ { s with heap := h1, toks := tk } := by
    refine ⟨hk, rfl, rfl, fun b hb => hoff b (hnew b hb), fun y z c hy hz => name_of_addr X.apart (mem_of_lookup hy) (mem_of_lookup hz), ⟨_, X.toInCall.ns, fun y cv hy hg => ?_⟩, fun y hy => ?_, fun y c hc => ?_⟩
    · have hg' : put noG x (.r l) y = some cv := hg
      by_cases e : y = x
      · subst e
        rw [put_self] at hg'; cases hg'
        exact ⟨.ref l, by simp, rfl⟩
      · rw [put_ne _ _ e] at hg'; cases hg'
    · obtain ⟨c, hc⟩ := Option.isSome_iff_exists.mp (cellsFrom_isSome (x := y) d.scope.names (s.heap.objs.size + 1) [] hy)
      refine ⟨c, _, hc, X.cell y c hc, fun cv hg => ?_⟩
      have hg' : put noG x (.r l) y = some cv := hg
      have e : y ≠ x := by
        rintro rfl
        have hy' : d.scope.names.lookup y = some .cell := hy
        rw [hloc] at hy'; cases hy'
      rw [put_ne _ _ e] at hg'; cases hg'
    · exact ⟨_, X.cell y c (lookup_of_mem hcells hc)⟩
  refine wpAny_mono (h (A.deeper _) code s.heap.objs.size (hR.deeper hk rfl (hoff _ hdead)) _ _ _ C1 X1) (fun f s' p => ⟨_, rfl, ?_⟩) fun _ _ e => e
  exact endPost S1 hnew p
end
end Mine

set_option maxRecDepth 100000
set_option maxHeartbeats 1000000
namespace Mine
/-! the text of a step -/
theorem one_is (c d : Nat) : (one c == (⟨#[d]⟩ : Str)) = decide (c = d) := by
  by_cases q : c = d
  · subst q; simp [one]
  · have : one c ≠ (⟨#[d]⟩ : Str) := by
      intro e
      have := congrArg (fun s : Str => s.cps.toList) e
      simp [one] at this
      exact q this
    rw [decide_eq_false q]
    exact beq_eq_false_iff_ne.mpr this
theorem two_is (c d : Nat) : ((("\\" : Str) ++ one c) == (⟨#[d]⟩ : Str)) = false := by
  refine beq_eq_false_iff_ne.mpr fun e => ?_
  have h := congrArg (fun s : Str => s.cps.size) e
  have h2 : (("\\" : Str) ++ one c).cps.size = 2 := by
    show ((("\\" : Str).cps) ++ #[c]).size = 2
    rw [Array.size_append]
    have : ("\\" : Str).cps.size = 1 := by decide +kernel
    rw [this]; rfl
  simp only at h
  rw [h2] at h
  simp at h
theorem paren_open : ("(" : Str) = ⟨#[40]⟩ := by decide +kernel
theorem paren_close : (")" : Str) = ⟨#[41]⟩ := by decide +kernel
theorem chk_two (o : Int) (c : Nat) (r : List Str) : chkY o ((("\\" : Str) ++ one c) :: r) = chkY o r := by
  rw [chkY, paren_open, paren_close, two_is, two_is]; rfl
theorem chk_one (o : Int) {c : Nat} (h : 64 ≤ c) (r : List Str) : chkY o (one c :: r) = chkY o r := by
  rw [chkY, paren_open, paren_close, one_is, one_is, decide_eq_false (by omega), decide_eq_false (by omega)]; rfl
theorem bareN_zero : bareN 0 = true := by unfold bareN; rw [run28, dif_neg (by decide)]; rfl
theorem bareN_step (n : Nat) : bareN n = if n % 64 = 28 then !bareN (n / 64) else true := by
  unfold bareN
  rw [run28]
  by_cases q : n % 64 = 28
  · rw [dif_pos q, if_pos q]
    generalize run28 (n / 64) = r
    by_cases z : r % 2 = 0
    · have : ¬ (r + 1) % 2 = 0 := by (clear q; omega)
      simp [z, this]
    · have : (r + 1) % 2 = 0 := by (clear q; omega)
      simp [z, this]
  · rw [dif_neg q, if_neg q]; rfl
theorem chk_hi (o : Int) : ∀ (n : Nat) (L : List Nat), chkY o (genY false (hiOct n ++ L)) = chkY o (genY (!bareN n) L) := by
  intro n
  induction n using Nat.strongRecOn with
  | ind n ih =>
    intro L
    by_cases q : n = 0
    · subst q
      rw [hiOct, dif_pos rfl, bareN_zero]; rfl
    · rw [hiOct, dif_neg q, List.append_assoc, ih (n / 64) (by (clear ih; omega)), bareN_step n]
      cases hb : bareN (n / 64) with
      | false =>
        show chkY o (genY true ((64 + n % 64) :: L)) = _
        rw [genY, if_pos rfl, chk_two]
        split <;> rfl
      | true =>
        show chkY o (genY false ((64 + n % 64) :: L)) = _
        rw [genY, if_neg Bool.false_ne_true]
        by_cases z : n % 64 = 28
        · rw [if_pos (by (clear ih q; omega)), if_pos z]; rfl
        · rw [if_neg (by (clear ih q; omega)), if_neg z, chk_one o (by (clear ih q z; omega))]; rfl
theorem octs_step (wv d : Nat) (h : d < 64) : octs (64 * wv + d) = hiOct wv ++ [d] := by
  unfold octs
  rw [show (64 * wv + d) / 64 = wv by omega, show (64 * wv + d) % 64 = d by omega]
/-- what a step does to the count of open brackets -/
def chS (st : Option Int) (s : Nat) : Option Int :=
  match st with
  | none => none
  | some o => if bareN (s / 64) then (if s % 64 = 40 then some (o + 1) else if o - 1 < 0 then none else some (o - 1)) else some o
def IsStep (s : Nat) : Prop := s % 64 = 40 ∨ s % 64 = 41
theorem isStep_eq {s : Nat} (h : IsStep s) : octs s = hiOct (s / 64) ++ [s % 64] := rfl
theorem chk_step (o : Int) {s : Nat} (h : IsStep s) (L : List Nat) : chkY o (genY false (octs s ++ L)) = (match chS (some o) s with | none => false | some o' => chkY o' (genY false L)) := by
  rw [isStep_eq h, List.append_assoc, chk_hi]
  unfold chS
  cases hb : bareN (s / 64) with
  | false =>
    show chkY o (genY true ((s % 64) :: L)) = _
    rw [genY, if_pos rfl, chk_two]; rfl
  | true =>
    show chkY o (genY false ((s % 64) :: L)) = _
    have hne : ¬ s % 64 = 92 := by omega
    rw [genY, if_neg Bool.false_ne_true, if_neg hne, chkY, paren_open, paren_close, one_is, one_is]
    simp only [if_true]
    rcases h with h | h
    · rw [h]; rfl
    · rw [h]
      by_cases z : o - 1 < 0
      · simp [z]
      · simp [z]
theorem chS_none (seg : List Nat) : seg.foldl chS none = none := by
  induction seg with
  | nil => rfl
  | cons s r ih => exact ih
theorem chk_flat : ∀ (seg : List Nat) (o : Int), (∀ s ∈ seg, IsStep s) → chkY o (genY false (flat seg)) = (match seg.foldl chS (some o) with | none => false | some o' => o' == 0) := by
  intro seg
  induction seg with
  | nil => intro o _; rfl
  | cons s r ih =>
    intro o h
    have e : flat (s :: r) = octs s ++ flat r := by simp [flat]
    rw [e, chk_step o (h s (List.mem_cons_self ..)), List.foldl_cons]
    cases hc : chS (some o) s with
    | none => rw [chS_none]
    | some o' => exact ih o' fun s hs => h s (List.mem_cons_of_mem _ hs)
theorem esc_end : ∀ (A : List Nat) (e : Bool) {d : Nat} (L : List Nat), d ≠ 92 → endEsc e (A ++ d :: L) = endEsc false L
  | [], e, d, L, h => by
    show endEsc e (d :: L) = _
    rw [endEsc]
    cases e
    · rw [if_neg Bool.false_ne_true, decide_eq_false h]
    · rw [if_pos rfl]
  | c :: A, e, d, L, h => by
    show endEsc e (c :: (A ++ d :: L)) = _
    rw [endEsc]
    split
    · exact esc_end A _ L h
    · exact esc_end A _ L h
theorem esc_flat : ∀ (seg : List Nat), (∀ s ∈ seg, IsStep s) → endEsc false (flat seg) = false
  | [], _ => rfl
  | s :: r, h => by
    have e : flat (s :: r) = hiOct (s / 64) ++ (s % 64) :: flat r := by simp [flat, octs]
    have hs := h s (List.mem_cons_self ..)
    rw [e, esc_end _ _ _ (by unfold IsStep at hs; (clear h hs; omega))]
    exact esc_flat r fun s hs => h s (List.mem_cons_of_mem _ hs)
theorem flat_mem {seg : List Nat} (h : ∀ s ∈ seg, IsStep s) : ∀ o ∈ flat seg, o < 128 ∧ o ≠ 34 := by
  intro o ho
  obtain ⟨s, hs, ho⟩ := List.mem_flatMap.mp ho
  have hst := h s hs
  rcases List.mem_append.mp ho with q | q
  · have := hiOct_all _ o q; (clear h; omega)
  · rw [List.mem_singleton.mp q]
    unfold IsStep at hst; (clear h; omega)
theorem flat_len {seg : List Nat} (h : ∀ s ∈ seg, s < 2 ^ 60) : (flat seg).length ≤ 100 * seg.length := by
  induction seg with
  | nil => simp [flat]
  | cons s r ih =>
    have h1 := ih fun s hs => h s (List.mem_cons_of_mem _ hs)
    have h2 := octs_len (h s (List.mem_cons_self ..))
    have e : flat (s :: r) = octs s ++ flat r := by simp [flat]
    rw [e, List.length_append, List.length_cons]; (clear ih h; omega)
end Mine

set_option maxRecDepth 100000
set_option maxHeartbeats 1000000
namespace Mine
def up (w : Nat → Nat) (e : Nat) : Nat := 64 * w e + 41
def dn (w : Nat → Nat) (e : Nat) : Nat := 64 * w e + 40
def leftOf (w : Nat → Nat) (a b : List Nat) : List Nat := a.map (up w) ++ b.reverse.map (dn w)
def stOf (w : Nat → Nat) (a b : List Nat) : Option Int := if a.any (fun e => bareN (w e)) = true then none else some ((b.countP (fun e => bareN (w e)) : Nat) : Int)
structure J (w : Nat → Nat) (seg a b : List Nat) : Prop where
  left : seg.foldl pushFar [] = leftOf w a b
  st : seg.foldl chS (some 0) = stOf w a b
theorem push_even (L : List Nat) {s : Nat} (h : s % 2 = 0) : pushFar L s = L ++ [s] := by
  unfold pushFar
  cases hq : L.getLast? with
  | none => rw [List.getLast?_eq_none_iff.mp hq]; rfl
  | some t => simp only; rw [if_neg (by omega)]
theorem push_pair (L : List Nat) {t s : Nat} (h : t % 2 = 0) (hs : t + 1 = s) : pushFar (L ++ [t]) s = L := by
  unfold pushFar
  rw [List.getLast?_append]
  simp [h, hs]
theorem push_odd (L : List Nat) (s : Nat) (h : ∀ t ∈ L, t % 2 = 1) : pushFar L s = L ++ [s] := by
  unfold pushFar
  cases hq : L.getLast? with
  | none => rw [List.getLast?_eq_none_iff.mp hq]; rfl
  | some t =>
    have := h t (List.mem_of_getLast? hq)
    simp only; rw [if_neg (by (clear h; omega))]
theorem chS_dn (w : Nat → Nat) (o : Int) (v : Nat) : chS (some o) (dn w v) = some (if bareN (w v) = true then o + 1 else o) := by
  unfold chS dn
  rw [show (64 * w v + 40) / 64 = w v by omega, show (64 * w v + 40) % 64 = 40 by omega]
  cases bareN (w v) <;> rfl
theorem chS_up (w : Nat → Nat) (o : Int) (v : Nat) : chS (some o) (up w v) = if bareN (w v) = true then (if o - 1 < 0 then none else some (o - 1)) else some o := by
  unfold chS up
  rw [show (64 * w v + 41) / 64 = w v by omega, show (64 * w v + 41) % 64 = 41 by omega]
  cases bareN (w v) <;> rfl
namespace J
variable {w : Nat → Nat} {seg a b : List Nat} {v : Nat}
theorem start : J w [] [] [] := ⟨rfl, rfl⟩
theorem opens (j : J w seg a b) : J w (seg ++ [dn w v]) a (v :: b) := by
  refine ⟨?_, ?_⟩
  · rw [List.foldl_append, j.left]
    show pushFar _ _ = _
    rw [push_even _ (by unfold dn; omega)]
    unfold leftOf
    rw [List.reverse_cons, List.map_append, List.append_assoc]; rfl
  · rw [List.foldl_append, j.st]
    show chS _ _ = _
    unfold stOf
    by_cases q : a.any (fun e => bareN (w e)) = true
    · rw [if_pos q, if_pos q]; rfl
    · rw [if_neg q, if_neg q, chS_dn, List.countP_cons]
      cases bareN (w v) <;> simp
theorem shut (j : J w seg a (v :: b)) : J w (seg ++ [up w v]) a b := by
  refine ⟨?_, ?_⟩
  · rw [List.foldl_append, j.left]
    show pushFar _ _ = _
    unfold leftOf
    rw [List.reverse_cons, List.map_append, ← List.append_assoc]
    exact push_pair _ (by unfold dn; omega) (by unfold dn up; omega)
  · rw [List.foldl_append, j.st]
    show chS _ _ = _
    unfold stOf
    by_cases q : a.any (fun e => bareN (w e)) = true
    · rw [if_pos q, if_pos q]; rfl
    · rw [if_neg q, if_neg q, chS_up, List.countP_cons]
      cases hb : bareN (w v)
      · simp
      · rw [if_pos rfl, if_pos rfl, if_neg (by (clear q; omega))]
        congr 1; (clear q; omega)
theorem back (j : J w seg a []) : J w (seg ++ [up w v]) (a ++ [v]) [] := by
  refine ⟨?_, ?_⟩
  · rw [List.foldl_append, j.left]
    show pushFar _ _ = _
    unfold leftOf
    rw [List.reverse_nil, List.map_nil, List.append_nil, List.append_nil, push_odd, List.map_append]
    · rfl
    · intro t ht
      obtain ⟨e, _, rfl⟩ := List.mem_map.mp ht
      unfold up; omega
  · rw [List.foldl_append, j.st]
    show chS _ _ = _
    unfold stOf
    rw [List.any_append]
    by_cases q : a.any (fun e => bareN (w e)) = true
    · rw [if_pos q, q]; rfl
    · have q' : a.any (fun e => bareN (w e)) = false := by simpa using q
      rw [if_neg q, q', chS_up]
      simp only [List.any_cons, List.any_nil, Bool.or_false, Bool.false_or]
      cases hb : bareN (w v)
      · rw [if_neg Bool.false_ne_true, if_neg Bool.false_ne_true]
      · rw [if_pos rfl, if_pos rfl, List.countP_nil, if_pos (by decide)]
theorem congr {w' : Nat → Nat} (j : J w seg a b) (ha : ∀ e ∈ a, w' e = w e) (hb : ∀ e ∈ b, w' e = w e) : J w' seg a b := by
  refine ⟨?_, ?_⟩
  · rw [j.left]; unfold leftOf
    rw [List.map_congr_left (f := up w) (g := up w') fun e he => by unfold up; rw [ha e he], List.map_congr_left (f := dn w) (g := dn w') fun e he => by unfold dn; rw [hb e (List.mem_reverse.mp he)]]
  · rw [j.st]; unfold stOf
    have e1 : a.any (fun e => bareN (w' e)) = a.any (fun e => bareN (w e)) := by
      rw [Bool.eq_iff_iff, List.any_eq_true, List.any_eq_true]
      constructor
      · rintro ⟨e, he, h⟩; exact ⟨e, he, by rw [← ha e he]; exact h⟩
      · rintro ⟨e, he, h⟩; exact ⟨e, he, by rw [ha e he]; exact h⟩
    have e2 : b.countP (fun e => bareN (w' e)) = b.countP (fun e => bareN (w e)) := List.countP_congr fun e he => by rw [hb e he]
    rw [e1, e2]
theorem far (j : J w seg a b) : farN seg = (a.map w).sum + (b.map w).sum := by
  unfold farN
  rw [j.left]
  unfold leftOf
  rw [List.map_append, List.sum_append, List.map_map, List.map_map]
  have e1 : (fun x => x / 64) ∘ up w = w := by funext e; unfold up; simp only [Function.comp]; omega
  have e2 : (fun x => x / 64) ∘ dn w = w := by funext e; unfold dn; simp only [Function.comp]; omega
  rw [e1, e2, List.map_reverse, List.sum_reverse]
theorem chk (j : J w seg a b) (h : ∀ s ∈ seg, IsStep s) : chkY 0 (genY false (flat seg)) = ((a ++ b).filter fun e => bareN (w e)).isEmpty := by
  rw [chk_flat seg 0 h, j.st]
  unfold stOf
  by_cases q : a.any (fun e => bareN (w e)) = true
  · rw [if_pos q]
    obtain ⟨e, he, hb⟩ := List.any_eq_true.mp q
    have hm : e ∈ (a ++ b).filter fun e => bareN (w e) := List.mem_filter.mpr ⟨List.mem_append_left _ he, hb⟩
    cases hf : (a ++ b).filter fun e => bareN (w e) with
    | nil => rw [hf] at hm; cases hm
    | cons _ _ => rfl
  · rw [if_neg q]
    have ha : a.filter (fun e => bareN (w e)) = [] := by
      rw [List.filter_eq_nil_iff]
      intro e he hb
      exact q (List.any_eq_true.mpr ⟨e, he, hb⟩)
    rw [List.filter_append, ha, List.nil_append, List.countP_eq_length_filter]
    cases hf : b.filter fun e => bareN (w e) with
    | nil => rfl
    | cons x r =>
      simp only [List.length_cons, List.isEmpty_cons]
      rw [beq_eq_false_iff_ne]; (clear h q; omega)
end J
/-! lines -/
theorem line_zero (ps : List Nat) : lineN ps 0 = [] := by rw [lineN, dif_pos (.inl rfl)]
theorem line_pos {ps : List Nat} {v : Nat} (h : 0 < v) (hp : ps.getD v 0 < v) : lineN ps v = v :: lineN ps (ps.getD v 0) := by
  rw [lineN, dif_neg (by omega)]
theorem line_mem (ps : List Nat) : ∀ (v : Nat), ∀ e ∈ lineN ps v, 0 < e ∧ e ≤ v := by
  intro v
  induction v using Nat.strongRecOn with
  | ind v ih =>
    intro e he
    rw [lineN] at he
    split at he
    · cases he
    · rename_i h
      rcases List.mem_cons.mp he with rfl | he
      · (clear ih; omega)
      · have := ih (ps.getD v 0) (by (clear ih; omega)) e he
        (clear ih; omega)
theorem line_sorted (ps : List Nat) : ∀ (v : Nat), (lineN ps v).Pairwise (· > ·) := by
  intro v
  induction v using Nat.strongRecOn with
  | ind v ih =>
    rw [lineN]
    split
    · exact .nil
    · rename_i h
      refine List.pairwise_cons.mpr ⟨fun e he => ?_, ih _ (by (clear ih; omega))⟩
      have := line_mem ps _ e he
      (clear ih; omega)
theorem getD_app {l r : List Nat} {i : Nat} (h : i < l.length) : (l ++ r).getD i 0 = l.getD i 0 := by
  rw [List.getD_eq_getElem?_getD, List.getElem?_append_left h, List.getD_eq_getElem?_getD]
theorem getD_last (l : List Nat) (x : Nat) : (l ++ [x]).getD l.length 0 = x := by
  rw [List.getD_eq_getElem?_getD, List.getElem?_append_right (Nat.le_refl _)]; simp
theorem line_app (ps r : List Nat) : ∀ (v : Nat), v < ps.length → lineN (ps ++ r) v = lineN ps v := by
  intro v
  induction v using Nat.strongRecOn with
  | ind v ih =>
    intro hv
    rw [lineN.eq_def (ps ++ r) v, lineN.eq_def ps v, getD_app hv]
    split
    · rfl
    · rename_i h
      rw [ih _ (by (clear ih hv; omega)) (by (clear ih; omega))]
theorem line_len (ps : List Nat) : ∀ (v : Nat), (lineN ps v).length ≤ v := by
  intro v
  induction v using Nat.strongRecOn with
  | ind v ih =>
    rw [lineN]
    split
    · exact Nat.zero_le _
    · rename_i h
      have := ih (ps.getD v 0) (by (clear ih; omega))
      rw [List.length_cons]; (clear ih; omega)
end Mine

set_option maxRecDepth 100000
set_option maxHeartbeats 1000000
namespace Mine
def wF (ws : List Nat) : Nat → Nat := fun e => ws.getD e 0
def Forks (ps ws : List Nat) (seg : List Nat) (u v : Nat) : Prop := ∃ a b c, lineN ps u = a ++ c ∧ lineN ps v = b ++ c ∧ (∀ e ∈ a, e ∉ b) ∧ J (wF ws) seg a b
structure WI (s : Wk) (p : Nat) : Prop where
  n1 : 1 ≤ s.weights.length
  n2 : s.firsts.length = s.weights.length
  n3 : s.parents.length = s.weights.length
  par : ∀ u, 0 < u → u < s.weights.length → s.parents.getD u 0 < u
  p0 : s.parents.getD 0 0 = 0
  w0 : s.weights.getD 0 0 = 0
  hp : p < s.weights.length
  way : s.way = 0 :: (lineN s.parents p).reverse
  st : ∀ x ∈ s.steps, IsStep x ∧ x < 2 ^ 60
  wl : ∀ x ∈ s.weights, x < 2 ^ 21
  fle : ∀ u, u < s.weights.length → s.firsts.getD u 0 ≤ s.steps.length
  fmo : ∀ u v, u < v → v < s.weights.length → s.firsts.getD u 0 ≤ s.firsts.getD v 0
  f0 : s.firsts.getD 0 0 = 0
  cur : ∀ u, u < s.weights.length → Forks s.parents s.weights (s.steps.drop (s.firsts.getD u 0)) u p
  pair : ∀ u v, u < v → v < s.weights.length → Forks s.parents s.weights (segN s.steps s.firsts u v) u v
theorem WI.start : WI wk0 0 := by
  refine ⟨by decide, rfl, rfl, fun u h1 h2 => ?_, rfl, rfl, by decide, ?_, by simp [wk0], by decide, fun u hu => ?_, fun u v h1 h2 => ?_, rfl, fun u hu => ?_, fun u v h1 h2 => ?_⟩
  · have : u < 1 := h2
    (clear h2; omega)
  · rw [line_zero]; rfl
  · have : u < 1 := hu
    have : u = 0 := by (clear hu; omega)
    subst this; decide
  · have : v < 1 := h2
    (clear h2; omega)
  · have : u < 1 := hu
    have : u = 0 := by (clear hu; omega)
    subst this
    exact ⟨[], [], [], by rw [line_zero]; rfl, by rw [line_zero]; rfl, by simp, .start⟩
  · have : v < 1 := h2
    (clear h2; omega)
theorem Forks.grow {ps ws seg : List Nat} {u v : Nat} {x y : Nat} (F : Forks ps ws seg u v) (h : ps.length = ws.length) (hu : u < ps.length) (hv : v < ps.length) : Forks (ps ++ [x]) (ws ++ [y]) seg u v := by
  obtain ⟨a, b, c, h1, h2, h3, j⟩ := F
  refine ⟨a, b, c, by rw [line_app _ _ _ hu, h1], by rw [line_app _ _ _ hv, h2], h3, j.congr (fun e he => ?_) (fun e he => ?_)⟩
  · have := line_mem ps u e (by rw [h1]; exact List.mem_append_left _ he)
    exact getD_app (by (clear hv h3; omega))
  · have := line_mem ps v e (by rw [h2]; exact List.mem_append_left _ he)
    exact getD_app (by (clear hu h3; omega))
theorem seg_app {steps firsts : List Nat} {u v : Nat} (x : Nat) (h1 : firsts.getD u 0 ≤ firsts.getD v 0) (h2 : firsts.getD v 0 ≤ steps.length) : segN (steps ++ [x]) firsts u v = segN steps firsts u v := by
  unfold segN
  rw [List.drop_append_of_le_length (by omega), List.take_append_of_le_length (by rw [List.length_drop]; omega)]
theorem way_last {ps : List Nat} {p : Nat} (hp : 0 < p → ps.getD p 0 < p) : (0 :: (lineN ps p).reverse).getLastD 0 = p := by
  by_cases q : p = 0
  · subst q; rw [line_zero]; rfl
  · rw [line_pos (by (clear hp; omega)) (hp (by (clear hp; omega))), List.reverse_cons, ← List.cons_append, List.getLastD_eq_getLast?, List.getLast?_append]
    rfl
theorem WI.opens {s : Wk} {p : Nat} (h : WI s p) (x : Int) : WI (s.opens x) s.weights.length := by
  have n1 := h.n1
  have n2 := h.n2
  have n3 := h.n3
  have hlast : s.way.getLastD 0 = p := by rw [h.way]; exact way_last fun hp => h.par p hp h.hp
  have hlen : (s.opens x).weights.length = s.weights.length + 1 := by simp [Wk.opens]
  have hps : (s.opens x).parents = s.parents ++ [p] := by show s.parents ++ [s.way.getLastD 0] = _; rw [hlast]
  have hws : (s.opens x).weights = s.weights ++ [wt x] := rfl
  have hfs : (s.opens x).firsts = s.firsts ++ [s.steps.length + 1] := rfl
  have hst : (s.opens x).steps = s.steps ++ [64 * wt x + 40] := rfl
  have hline : lineN (s.parents ++ [p]) s.weights.length = s.weights.length :: lineN s.parents p := by
    have e : (s.parents ++ [p]).getD s.weights.length 0 = p := by rw [← n3]; exact getD_last _ _
    rw [line_pos (by (clear hlast e; omega)) (by rw [e]; exact h.hp), e, line_app _ _ _ (by rw [n3]; exact h.hp)]
  have hdn : 64 * wt x + 40 = dn (wF (s.weights ++ [wt x])) s.weights.length := by
    unfold dn wF; rw [getD_last]
  have hwt := wt_lt x
  have fold : ∀ u, u < s.weights.length → (s.firsts ++ [s.steps.length + 1]).getD u 0 = s.firsts.getD u 0 := fun u hu => getD_app (by (clear n1 hlast hdn hwt; omega))
  have fnew : (s.firsts ++ [s.steps.length + 1]).getD s.weights.length 0 = s.steps.length + 1 := by rw [← n2]; exact getD_last _ _
  have now : ∀ u, u < s.weights.length → Forks (s.parents ++ [p]) (s.weights ++ [wt x]) ((s.steps ++ [64 * wt x + 40]).drop (s.firsts.getD u 0)) u s.weights.length := by
    intro u hu
    obtain ⟨a, b, c, h1, h2, h3, j⟩ := (h.cur u hu).grow (x := p) (y := wt x) n3 (by (clear n1 hlast hdn hwt fold fnew; omega)) (by rw [n3]; exact h.hp)
    refine ⟨a, s.weights.length :: b, c, h1, ?_, fun e he hm => ?_, ?_⟩
    · rw [hline, ← line_app s.parents [p] p (by rw [n3]; exact h.hp), h2]; rfl
    · have := line_mem _ u e (by rw [h1]; exact List.mem_append_left _ he)
      rcases List.mem_cons.mp hm with q | q
      · (clear n1 hlast hdn hwt fold fnew h3; omega)
      · exact h3 e he q
    · rw [List.drop_append_of_le_length (h.fle u hu), hdn]
      exact j.opens
  refine ⟨by (clear hlast hdn hwt fold fnew now; omega), by rw [hlen, hfs, List.length_append, n2]; rfl, by rw [hlen, hps, List.length_append, n3]; rfl, fun u h1 h2 => ?_, ?_, ?_, by (clear n1 hlast hdn hwt fold fnew now; omega), ?_, fun y hy => ?_, fun y hy => ?_, fun u hu => ?_, fun u v h1 h2 => ?_, ?_, fun u hu => ?_, fun u v h1 h2 => ?_⟩
  · rw [hps]
    by_cases q : u = s.weights.length
    · subst q
      have e : (s.parents ++ [p]).getD s.weights.length 0 = p := by rw [← n3]; exact getD_last _ _
      rw [e]; exact h.hp
    · rw [getD_app (by (clear n1 hlast hdn hwt fold fnew now h1; omega))]; exact h.par u h1 (by (clear n1 hlast hdn hwt fold fnew now h1; omega))
  · rw [hps, getD_app (by (clear hlast hdn hwt fold fnew now; omega))]; exact h.p0
  · rw [hws, getD_app (by (clear hlast hdn hwt fold fnew now; omega))]; exact h.w0
  · rw [hps, hline]
    show s.way ++ [s.weights.length] = _
    rw [h.way, List.reverse_cons]; rfl
  · rw [hst] at hy
    rcases List.mem_append.mp hy with hy | hy
    · exact h.st y hy
    · rw [List.mem_singleton.mp hy]
      exact ⟨.inl (by (clear n1 n2 n3 hlast hlen hdn hwt fold fnew now; omega)), by (clear n1 n2 n3 hlast hlen hdn fold fnew now; omega)⟩
  · rw [hws] at hy
    rcases List.mem_append.mp hy with hy | hy
    · exact h.wl y hy
    · rw [List.mem_singleton.mp hy]; exact hwt
  · rw [hfs, hst, List.length_append]
    by_cases q : u = s.weights.length
    · subst q; rw [fnew]; exact Nat.le_refl _
    · rw [fold u (by (clear n1 hlast hdn hwt fold fnew now; omega))]
      have := h.fle u (by (clear n1 hlast hdn hwt fold fnew now; omega))
      (clear n1 n2 n3 hlast hlen hdn hwt fold fnew now hu q; omega)
  · rw [hfs]
    by_cases q : v = s.weights.length
    · subst q
      rw [fnew, fold u h1]
      have := h.fle u h1
      (clear n1 n2 n3 hlast hlen hdn hwt fold fnew now h1 h2; omega)
    · rw [fold u (by (clear n1 hlast hdn hwt fold fnew now q; omega)), fold v (by (clear n1 hlast hdn hwt fold fnew now h1; omega))]; exact h.fmo u v h1 (by (clear n1 hlast hdn hwt fold fnew now h1; omega))
  · rw [hfs, fold 0 (by (clear hlast hdn hwt fold fnew now; omega))]; exact h.f0
  · rw [hfs, hps, hst, hws]
    by_cases q : u = s.weights.length
    · subst q
      rw [fnew]
      refine ⟨[], [], _, rfl, rfl, by simp, ?_⟩
      rw [List.drop_of_length_le (by simp)]
      exact .start
    · rw [fold u (by (clear n1 hlast hdn hwt fold fnew now; omega))]; exact now u (by (clear n1 hlast hdn hwt fold fnew now; omega))
  · rw [hfs, hps, hst, hws]
    by_cases q : v = s.weights.length
    · subst q
      have e : segN (s.steps ++ [64 * wt x + 40]) (s.firsts ++ [s.steps.length + 1]) u s.weights.length = (s.steps ++ [64 * wt x + 40]).drop (s.firsts.getD u 0) := by
        unfold segN
        rw [fnew, fold u h1, List.take_of_length_le]
        rw [List.length_drop, List.length_append]
        exact Nat.le_refl _
      rw [e]; exact now u h1
    · have hv : v < s.weights.length := by (clear n1 hlast hdn hwt fold fnew now h1; omega)
      have e : segN (s.steps ++ [64 * wt x + 40]) (s.firsts ++ [s.steps.length + 1]) u v = segN s.steps s.firsts u v := by
        have e2 : segN (s.steps ++ [64 * wt x + 40]) (s.firsts ++ [s.steps.length + 1]) u v = segN (s.steps ++ [64 * wt x + 40]) s.firsts u v := by
          unfold segN; rw [fold u (by (clear n1 hlast hdn hwt fold fnew now h2 q; omega)), fold v hv]
        rw [e2]; exact seg_app _ (h.fmo u v h1 hv) (h.fle v hv)
      rw [e]
      exact (h.pair u v h1 hv).grow n3 (by (clear n1 hlast hdn hwt fold fnew now h2 q; omega)) (by (clear n1 hlast hdn hwt fold fnew now h1 h2 q; omega))
theorem WI.close {s : Wk} {p : Nat} (h : WI s p) (hp : 0 < p) : WI s.close (s.parents.getD p 0) ∧ s.close.way.length + 1 = s.way.length := by
  have hq := h.par p hp h.hp
  have hl := line_pos hp hq
  have hway : s.way = (0 :: (lineN s.parents (s.parents.getD p 0)).reverse) ++ [p] := by rw [h.way, hl, List.reverse_cons]; rfl
  have hlast : s.way.getLastD 0 = p := by rw [h.way]; exact way_last fun _ => hq
  have hlen : 1 < s.way.length := by rw [hway]; simp
  have e : s.close = ⟨s.steps ++ [up (wF s.weights) p], s.firsts, s.parents, s.weights, 0 :: (lineN s.parents (s.parents.getD p 0)).reverse⟩ := by
    unfold Wk.close
    rw [if_pos hlen, hlast]
    congr 1
    rw [hway, List.dropLast_concat]
  have hwl : ∀ e, wF s.weights e < 2 ^ 21 := fun e => by
    unfold wF
    by_cases q : e < s.weights.length
    · exact h.wl _ (getD_mem q)
    · rw [List.getD_eq_getElem?_getD, List.getElem?_eq_none (by (clear hp hq hlast hlen; omega))]; decide
  refine ⟨?_, by rw [e, hway]; simp⟩
  rw [e]
  refine ⟨h.n1, h.n2, h.n3, h.par, h.p0, h.w0, by have := h.hp; show s.parents.getD p 0 < s.weights.length; (clear hp hlen hwl; omega), rfl, fun y hy => ?_, h.wl, fun u hu => ?_, h.fmo, h.f0, fun u hu => ?_, fun u v h1 h2 => ?_⟩
  · rcases List.mem_append.mp hy with hy | hy
    · exact h.st y hy
    · rw [List.mem_singleton.mp hy]
      have := hwl p
      exact ⟨.inr (by unfold up; (clear hp hq hlast hlen hwl; omega)), by unfold up; (clear hp hq hlast hlen hwl; omega)⟩
  · show s.firsts.getD u 0 ≤ (s.steps ++ [up (wF s.weights) p]).length
    rw [List.length_append]
    have := h.fle u hu
    (clear hp hq hlast hlen hwl hu; omega)
  · obtain ⟨a, b, c, h1, h2, h3, j⟩ := h.cur u hu
    show Forks s.parents s.weights ((s.steps ++ [up (wF s.weights) p]).drop (s.firsts.getD u 0)) u (s.parents.getD p 0)
    rw [List.drop_append_of_le_length (h.fle u hu)]
    rw [hl] at h2
    cases b with
    | nil =>
      have h2' : p :: lineN s.parents (s.parents.getD p 0) = c := h2
      exact ⟨a ++ [p], [], lineN s.parents (s.parents.getD p 0), by rw [h1, ← h2']; simp, rfl, by simp, j.back⟩
    | cons q b =>
      rw [List.cons_append, List.cons.injEq] at h2
      obtain ⟨rfl, h2⟩ := h2
      exact ⟨a, b, c, h1, h2, fun e he hm => h3 e he (List.mem_cons_of_mem _ hm), j.shut⟩
  · show Forks s.parents s.weights (segN (s.steps ++ [up (wF s.weights) p]) s.firsts u v) u v
    rw [seg_app _ (h.fmo u v h1 h2) (h.fle v h2)]
    exact h.pair u v h1 h2
theorem WI.close' {s : Wk} {p : Nat} (h : WI s p) : ∃ q, WI s.close q := by
  by_cases hp : 0 < p
  · exact ⟨_, (h.close hp).1⟩
  · have : p = 0 := by omega
    subst this
    have e : s.close = s := by
      unfold Wk.close
      rw [if_neg]
      rw [h.way, line_zero]; decide
    rw [e]; exact ⟨0, h⟩
theorem WI.closes {s : Wk} {p : Nat} (h : WI s p) : ∀ n, ∃ q, WI (Wk.closes n s) q
  | 0 => ⟨p, h⟩
  | n + 1 => let ⟨_, k⟩ := WI.closes h n; k.close'
theorem WI.items {s : Wk} : ∀ (xs : List Int) {p : Nat}, WI s p → ∃ q, WI (xs.foldl Wk.item s) q := by
  intro xs
  induction xs generalizing s with
  | nil => intro p h; exact ⟨p, h⟩
  | cons x r ih =>
    intro p h
    obtain ⟨q, k⟩ := (h.opens x).closes (turns x)
    exact ih k
theorem WI.drain : ∀ (n : Nat) {s : Wk} {p : Nat}, WI s p → s.way.length ≤ n + 1 → WI (Wk.closes n s) 0
  | 0, s, p, h, hl => by
    have hp : p = 0 := by
      by_cases q : p = 0
      · exact q
      · rw [h.way, line_pos (by (clear hl; omega)) (h.par p (by (clear hl; omega)) h.hp)] at hl
        simp at hl
    subst hp; exact h
  | n + 1, s, p, h, hl => by
    rw [Wk.closes_in]
    by_cases hp : 0 < p
    · obtain ⟨k, kl⟩ := h.close hp
      exact WI.drain n k (by (clear hp; omega))
    · have : p = 0 := by (clear hl; omega)
      subst this
      have e : s.close = s := by
        unfold Wk.close
        rw [if_neg]
        rw [h.way, line_zero]; decide
      rw [e]
      refine WI.drain n h ?_
      rw [h.way, line_zero]; simp
theorem WI.walk (xs : List Int) : WI (walkN xs) 0 := by
  obtain ⟨q, k⟩ := WI.start.items xs
  exact WI.drain _ k (Nat.le_succ _)
end Mine

set_option maxRecDepth 100000
set_option maxHeartbeats 1000000
namespace Mine
/-! sums -/
def SM (n : Nat) (f : Nat → Int) : Int := ((List.range n).map f).sum
theorem SM_zero (f : Nat → Int) : SM 0 f = 0 := rfl
theorem SM_succ (n : Nat) (f : Nat → Int) : SM (n + 1) f = SM n f + f n := by
  unfold SM; rw [List.range_succ, List.map_append, List.sum_append]; simp
theorem SM_congr {n : Nat} {f g : Nat → Int} (h : ∀ e, e < n → f e = g e) : SM n f = SM n g := by
  induction n with
  | zero => rfl
  | succ n ih => rw [SM_succ, SM_succ, ih fun e he => h e (by (clear ih h; omega)), h n (by (clear ih h; omega))]
theorem SM_add (n : Nat) (f g : Nat → Int) : SM n (fun e => f e + g e) = SM n f + SM n g := by
  induction n with
  | zero => rfl
  | succ n ih => rw [SM_succ, SM_succ, SM_succ, ih]; (clear ih; omega)
theorem SM_sub (n : Nat) (f g : Nat → Int) : SM n (fun e => f e - g e) = SM n f - SM n g := by
  induction n with
  | zero => rfl
  | succ n ih => rw [SM_succ, SM_succ, SM_succ, ih]; (clear ih; omega)
theorem SM_mul (n : Nat) (k : Int) (f : Nat → Int) : SM n (fun e => k * f e) = k * SM n f := by
  induction n with
  | zero => simp [SM_zero]
  | succ n ih => rw [SM_succ, SM_succ, ih, Int.mul_add]
theorem SM_const (n : Nat) : SM n (fun _ => 0) = 0 := by
  induction n with
  | zero => rfl
  | succ n ih => rw [SM_succ, ih]; rfl
theorem SM_single (n k : Nat) (g : Nat → Int) : SM n (fun e => if e = k then g e else 0) = if k < n then g k else 0 := by
  induction n with
  | zero => rfl
  | succ n ih =>
    rw [SM_succ, ih]
    by_cases h : n = k
    · subst h; simp
    · rw [if_neg h]
      by_cases h2 : k < n
      · rw [if_pos h2, if_pos (by (clear ih h; omega))]; (clear ih h h2; omega)
      · rw [if_neg h2, if_neg (by (clear ih; omega))]; rfl
theorem SM_shift (n : Nat) (f : Nat → Int) : SM (n + 1) f = f 0 + SM n (fun e => f (e + 1)) := by
  induction n with
  | zero => rw [SM_succ, SM_zero, SM_zero]; omega
  | succ n ih => rw [SM_succ, ih, SM_succ]; (clear ih; omega)
theorem SM_swap (n m : Nat) (f : Nat → Nat → Int) : SM n (fun i => SM m (f i)) = SM m (fun j => SM n (fun i => f i j)) := by
  induction n with
  | zero => rw [SM_zero]; symm; exact (SM_congr fun _ _ => SM_zero _).trans (SM_const m)
  | succ n ih =>
    rw [SM_succ, ih, ← SM_add]
    exact SM_congr fun j _ => (SM_succ n fun i => f i j).symm
theorem SM_bound {n : Nat} {f : Nat → Int} {b : Int} (h : ∀ e, e < n → 0 ≤ f e ∧ f e ≤ b) : 0 ≤ SM n f ∧ SM n f ≤ n * b := by
  induction n with
  | zero => rw [SM_zero]; simp
  | succ n ih =>
    have h1 := ih fun e he => h e (by (clear ih h; omega))
    have h2 := h n (by (clear ih h h1; omega))
    rw [SM_succ, Int.natCast_add, Int.add_mul]
    simp only [Int.natCast_one, Int.one_mul]
    (clear ih h; omega)
/-! a tree's table -/
structure Tree (n : Nat) (w : Nat → Int) (c : Nat → Nat → Int) : Prop where
  bit : ∀ e v, c e v = 0 ∨ c e v = 1
  self : ∀ e, 1 ≤ e → e < n → c e e = 1
  low : ∀ e v, v < e → c e v = 0
  root : ∀ v, c 0 v = 0
  pos : ∀ e, 0 ≤ w e ∧ w e ≤ 2 ^ 21
def mm (n : Nat) (w : Nat → Int) (c : Nat → Nat → Int) (k i j : Nat) : Int := SM n fun e => if k ≤ e then w e * c e i * c e j else 0
def dist (n : Nat) (w : Nat → Int) (c : Nat → Nat → Int) (i j : Nat) : Int := SM n fun e => w e * (c e i + c e j - 2 * c e i * c e j)
section
variable {n : Nat} {w : Nat → Int} {c : Nat → Nat → Int}
theorem mm_step (k i j : Nat) (h : k < n) : mm n w c k i j = w k * c k i * c k j + mm n w c (k + 1) i j := by
  unfold mm
  have e : SM n (fun e => if k ≤ e then w e * c e i * c e j else 0) = SM n (fun e => (if e = k then w e * c e i * c e j else 0) + (if k + 1 ≤ e then w e * c e i * c e j else 0)) := by
    refine SM_congr fun e _ => ?_
    by_cases h1 : e = k
    · subst h1; rw [if_pos (Nat.le_refl _), if_pos rfl, if_neg (by (clear h; omega))]; (clear h; omega)
    · rw [if_neg h1]
      by_cases h2 : k ≤ e
      · rw [if_pos h2, if_pos (by (clear h; omega))]; (clear h h1 h2; omega)
      · rw [if_neg h2, if_neg (by (clear h h1; omega))]; rfl
  rw [e, SM_add, SM_single, if_pos h]
theorem mm_sym (k i j : Nat) : mm n w c k i j = mm n w c k j i := by
  unfold mm
  refine SM_congr fun e _ => ?_
  split
  · rw [Int.mul_assoc, Int.mul_assoc, Int.mul_comm (c e i)]
  · rfl
theorem mm_zero (T : Tree n w c) {k i j : Nat} (h : i < k) : mm n w c k i j = 0 := by
  unfold mm
  refine (SM_congr fun e _ => ?_).trans (SM_const n)
  by_cases h1 : k ≤ e
  · rw [if_pos h1, T.low e i (by omega)]; simp
  · rw [if_neg h1]
theorem mm_row (T : Tree n w c) {k j : Nat} (h1 : 1 ≤ k) (h : k < n) : mm n w c k k j = w k * c k j := by
  rw [mm_step _ _ _ h, T.self k h1 h, mm_zero T (Nat.lt_succ_self k), Int.mul_one, Int.add_zero]
theorem mm_col (T : Tree n w c) {k i : Nat} (h1 : 1 ≤ k) (h : k < n) : mm n w c k i k = w k * c k i := by
  rw [mm_sym, mm_row T h1 h]
theorem mm_bound (T : Tree n w c) (k i j : Nat) : 0 ≤ mm n w c k i j ∧ mm n w c k i j ≤ n * 2 ^ 21 := by
  refine SM_bound fun e _ => ?_
  have := T.pos e
  split
  · rcases T.bit e i with h | h <;> rcases T.bit e j with h' | h' <;> rw [h, h'] <;> simp <;> (clear h h'; omega)
  · exact ⟨Int.le_refl _, by decide⟩
theorem dist_mm (T : Tree n w c) (i j : Nat) : dist n w c i j = mm n w c 1 i i + mm n w c 1 j j - 2 * mm n w c 1 i j := by
  unfold dist mm
  rw [← SM_mul, ← SM_add, ← SM_sub]
  refine SM_congr fun e _ => ?_
  by_cases h : 1 ≤ e
  · rw [if_pos h, if_pos h, if_pos h]
    rcases T.bit e i with h1 | h1 <;> rcases T.bit e j with h2 | h2 <;> rw [h1, h2] <;> grind
  · have : e = 0 := by omega
    subst this
    rw [T.root, T.root]; simp
theorem dist_sym (T : Tree n w c) (i j : Nat) : dist n w c i j = dist n w c j i := by
  rw [dist_mm T, dist_mm T, mm_sym 1 i j]; omega
theorem dist_root (T : Tree n w c) (i : Nat) : dist n w c i 0 = mm n w c 1 i i := by
  rw [dist_mm T, mm_sym 1 i 0, mm_zero T (by omega : 0 < 1), mm_zero T (by omega : 0 < 1)]; omega
theorem root_dist (T : Tree n w c) (i : Nat) : dist n w c 0 i = mm n w c 1 i i := by rw [dist_sym T, dist_root T]
theorem fdiv_mul {a x : Int} (h : a ≠ 0) : (a * x).fdiv a = x := by
  rw [Int.mul_comm]; exact Int.mul_fdiv_cancel x h
theorem swp_self (M : Nat → Nat → Int) (k : Nat) : swp M k k = M := by
  funext i j
  unfold swp
  by_cases h : i = k
  · rw [if_pos h, h]
  · rw [if_neg h, if_neg h]
/-- the algebra of one step -/
theorem step_alg (E S a ah m ci cj hi hj : Int) (hah : 2 * ah = -(E * S)) (h1 : ci = 0 ∨ ci = 1) (h2 : cj = 0 ∨ cj = 1) :
    (E * (S * (a * ci * cj + m) + (a * ci * ci + hi) * (a * cj * cj + hj))) * (E * (S * a + a * a)) - (E * (S * (a * ci) + (a * ci * ci + hi) * a)) * (E * (S * (a * cj) + a * (a * cj * cj + hj)))
      = ah * ((-2 * E * a) * ((S + a) * m + hi * hj)) := by
  have e : ah * ((-2 * E * a) * ((S + a) * m + hi * hj)) = (E * S) * (E * a * ((S + a) * m + hi * hj)) := by
    have h : E * S = -2 * ah := by (clear h1 h2; omega)
    rw [h]; grind
  rw [e]
  rcases h1 with rfl | rfl <;> rcases h2 with rfl | rfl <;> grind
def tail (w : Nat → Int) (n : Nat) : Nat → Int × Int
  | 0 => (1, 0)
  | d + 1 => (w (n - (d + 1)) * (tail w n d).1, w (n - (d + 1)) + (tail w n d).2)
theorem small_bound {x : Int} {k : Nat} (h : x.natAbs ≤ 2 ^ k) (hk : k < 1000) : x.natAbs < 2 ^ 1000 := Nat.lt_of_le_of_lt h (Nat.pow_lt_pow_right (by decide) hk)
theorem T_bound (T : Tree n w c) (hn : n ≤ 7) {S : Int} (hS : 0 ≤ S ∧ S ≤ 2 ^ 24) (k i j : Nat) : (S * mm n w c k i j + mm n w c k i i * mm n w c k j j).natAbs ≤ 2 ^ 49 := by
  have h1 := mm_bound T k i j
  have h2 := mm_bound T k i i
  have h3 := mm_bound T k j j
  have b1 : mm n w c k i j ≤ 2 ^ 24 := by have : (n : Int) * 2 ^ 21 ≤ 2 ^ 24 := by (clear hS h1 h2 h3; omega)
                                          (clear hS h2 h3; omega)
  have b2 : mm n w c k i i ≤ 2 ^ 24 := by have : (n : Int) * 2 ^ 21 ≤ 2 ^ 24 := by (clear hS h1 h2 h3 b1; omega)
                                          (clear hS h1 h3 b1; omega)
  have b3 : mm n w c k j j ≤ 2 ^ 24 := by have : (n : Int) * 2 ^ 21 ≤ 2 ^ 24 := by (clear hS h1 h2 h3 b1 b2; omega)
                                          (clear hS h1 h2 b1 b2; omega)
  have p1 : 0 ≤ S * mm n w c k i j := Int.mul_nonneg hS.1 h1.1
  have p2 : 0 ≤ mm n w c k i i * mm n w c k j j := Int.mul_nonneg h2.1 h3.1
  have q1 : S * mm n w c k i j ≤ 2 ^ 24 * 2 ^ 24 := Int.mul_le_mul hS.2 b1 h1.1 (by decide)
  have q2 : mm n w c k i i * mm n w c k j j ≤ 2 ^ 24 * 2 ^ 24 := Int.mul_le_mul b2 b3 h3.1 (by decide)
  (clear hn hS h1 h2 h3 b1 b2 b3; omega)
theorem E_step {E a : Int} {k : Nat} (hE : E.natAbs ≤ 2 ^ (22 * (k - 1))) (hk : 2 ≤ k) (ha : 0 ≤ a ∧ a ≤ 2 ^ 21) : (-2 * E * a).natAbs ≤ 2 ^ (22 * (k + 1 - 1)) := by
  rw [Int.natAbs_mul, Int.natAbs_mul]
  have e : 22 * (k + 1 - 1) = 1 + 22 * (k - 1) + 21 := by (clear hE ha; omega)
  rw [e, Nat.pow_add, Nat.pow_add]
  exact Nat.mul_le_mul (Nat.mul_le_mul (by decide) hE) (by (clear hE hk e; omega))
theorem worth_tail (T : Tree n w c) (hn : n ≤ 7) : ∀ (d k : Nat), k + 1 + d = n → 2 ≤ k → ∀ (M : Nat → Nat → Int) (E ah S : Int), E ≠ 0 → 0 < S → S + (tail w n (d + 1)).2 ≤ 2 ^ 24 → 2 * ah = -(E * S) → ah.natAbs ≤ 2 ^ 200 → E.natAbs ≤ 2 ^ (22 * (k - 1)) →
    (∀ i j, k ≤ i → i < n → k ≤ j → j < n → M i j = E * (S * mm n w c k i j + mm n w c k i i * mm n w c k j j)) → (∀ i j, i < n → j < n → (M i j).natAbs ≤ 2 ^ 200) →
    Worth n (-(E * (-2) ^ d * (tail w n (d + 1)).1 * (S + (tail w n (d + 1)).2))) k M (-1) ah := by
  intro d
  induction d with
  | zero =>
    intro k hk h2 M E ah S hE hS hSb hah hab hEb hM hB
    have hkn : k < n := by (clear hn h2 hE hS hSb hah hab hEb hM hB; omega)
    have ha := T.pos k
    have e : n - (0 + 1) = k := by (clear hE hS hSb hah hab hEb hM hB hkn ha; omega)
    refine .done (by (clear hn h2 hE hS hSb hah hab hEb hM hB hkn ha e; omega)) (by decide) (small_bound (hB k k hkn hkn) (by decide)) ?_
    rw [hM k k (Nat.le_refl _) hkn (Nat.le_refl _) hkn, mm_row T (by (clear hE hS hSb hah hab hEb hM hB hkn ha; omega)) hkn, T.self k (by (clear hE hS hSb hah hab hEb hM hB hkn ha; omega)) hkn]
    unfold tail tail
    rw [e]
    simp only [Int.mul_one, Int.add_zero, Int.pow_zero]
    grind
  | succ d ih =>
    intro k hk h2 M E ah S hE hS hSb hah hab hEb hM hB
    have hkn : k < n := by (clear hn ih h2 hE hS hSb hah hab hEb hM hB; omega)
    have ha := T.pos k
    have e : n - (d + 1 + 1) = k := by (clear hn ih hE hS hSb hah hab hEb hM hB hkn ha; omega)
    have et1 : (tail w n (d + 1 + 1)).1 = w k * (tail w n (d + 1)).1 := by rw [tail, e]
    have et2 : (tail w n (d + 1 + 1)).2 = w k + (tail w n (d + 1)).2 := by rw [tail, e]
    have hkk := hM k k (Nat.le_refl _) hkn (Nat.le_refl _) hkn
    rw [mm_row T (by (clear hn ih hk hE hS hSb hah hab hEb hM hB hkn ha et1 et2 hkk; omega)) hkn, T.self k (by (clear hn ih hk hE hS hSb hah hab hEb hM hB hkn ha et1 et2 hkk; omega)) hkn, Int.mul_one] at hkk
    by_cases hz : w k = 0
    · refine .zero (by (clear hn ih h2 hE hS hSb hah hab hEb hM hB hkn ha e et1 et2 hkk hz; omega)) (fun i hi hin => ?_) ?_
      · rw [hM i k hi hin (Nat.le_refl _) hkn, mm_col T (by (clear hn ih hk hE hS hSb hah hab hEb hM hB hkn ha et1 et2 hkk hz hi hin; omega)) hkn, mm_row T (by (clear hn ih hk hE hS hSb hah hab hEb hM hB hkn ha et1 et2 hkk hz hi hin; omega)) hkn, hz]
        simp
      · rw [et1, hz]; simp
    · have hap : 0 < w k := by (clear hn ih hk h2 hE hS hSb hah hab hEb hM hB hkn e et1 et2 hkk; omega)
      have tnn : ∀ m, 0 ≤ (tail w n m).2 := by
        intro m
        induction m with
        | zero => exact Int.le_refl _
        | succ m ihm => rw [tail]; have := T.pos (n - (m + 1)); simp only; (clear hn ih hk h2 hE hS hSb hah hab hEb hM hB hkn ha e et1 et2 hkk hz hap; omega)
      have htn := tnn (d + 1)
      rw [et2] at hSb
      have hkk0 : M k k ≠ 0 := by
        rw [hkk]
        have e1 : S * w k + w k * w k = w k * (S + w k) := by grind
        rw [e1]
        exact Int.mul_ne_zero hE (Int.mul_ne_zero hz (by (clear hn ih hk h2 hE hSb hah hab hEb hM hB hkn e et1 hkk hz tnn htn e1; omega)))
      have hah0 : ah ≠ 0 := by
        intro h
        rw [h] at hah
        have : E * S ≠ 0 := Int.mul_ne_zero hE (by (clear hn ih hk h2 hE hSb hah hab hEb hM hB hkn ha e et1 et2 hkk hz hap tnn htn hkk0 h; omega))
        (clear hn ih hk h2 hE hS hSb hab hEb hM hB hkn ha e et1 et2 hkk hz hap tnn htn hkk0 h; omega)
      have hB' : ∀ i j, i < n → j < n → (M i j).natAbs < 2 ^ 1000 := fun i j hi hj => small_bound (hB i j hi hj) (by decide)
      refine .step k (by (clear hn ih h2 hE hS hSb hah hab hEb hM hB hkn ha e et1 et2 hkk hz hap tnn htn hkk0 hah0 hB'; omega)) (Nat.le_refl _) hkn hkk0 (fun i h1 h2 => absurd h1 (by (clear hn ih hk hE hS hSb hah hab hEb hM hB hkn ha et1 et2 hkk hz hap tnn htn hkk0 hah0 hB'; omega))) hah0 (small_bound hab (by decide)) hB' ?_
      rw [swp_self, if_pos rfl]
      have hnew : ∀ i j, k + 1 ≤ i → i < n → k + 1 ≤ j → j < n → elim M k ah i j = (-2 * E * w k) * ((S + w k) * mm n w c (k + 1) i j + mm n w c (k + 1) i i * mm n w c (k + 1) j j) := by
        intro i j h1 h2 h3 h4
        unfold elim
        rw [if_pos (by (clear hn ih hk hE hS hSb hah hab hEb hM hB hkn ha et1 et2 hkk hz hap tnn htn hkk0 hah0 hB' h2 h4; omega)), hkk, hM i j (by (clear hn ih hk hE hS hSb hah hab hEb hM hB hkn ha et1 et2 hkk hz hap tnn htn hkk0 hah0 hB' h2 h3 h4; omega)) h2 (by (clear hn ih hk hE hS hSb hah hab hEb hM hB hkn ha et1 et2 hkk hz hap tnn htn hkk0 hah0 hB' h1 h2 h4; omega)) h4, hM i k (by (clear hn ih hk hE hS hSb hah hab hEb hM hB hkn ha et1 et2 hkk hz hap tnn htn hkk0 hah0 hB' h2 h3 h4; omega)) h2 (Nat.le_refl _) hkn, hM k j (Nat.le_refl _) hkn (by (clear hn ih hk hE hS hSb hah hab hEb hM hB hkn ha et1 et2 hkk hz hap tnn htn hkk0 hah0 hB' h1 h2 h4; omega)) h4]
        rw [mm_col T (by (clear hn ih hk hE hS hSb hah hab hEb hM hB hkn ha et1 et2 hkk hz hap tnn htn hkk0 hah0 hB' h1 h2 h3 h4; omega)) hkn, mm_row T (by (clear hn ih hk hE hS hSb hah hab hEb hM hB hkn ha et1 et2 hkk hz hap tnn htn hkk0 hah0 hB' h1 h2 h3 h4; omega)) hkn, mm_row T (by (clear hn ih hk hE hS hSb hah hab hEb hM hB hkn ha et1 et2 hkk hz hap tnn htn hkk0 hah0 hB' h1 h2 h3 h4; omega)) hkn, T.self k (by (clear hn ih hk hE hS hSb hah hab hEb hM hB hkn ha et1 et2 hkk hz hap tnn htn hkk0 hah0 hB' h1 h2 h3 h4; omega)) hkn, mm_step k i j hkn, mm_step k i i hkn, mm_step k j j hkn, Int.mul_one]
        rw [step_alg E S (w k) ah _ (c k i) (c k j) _ _ hah (T.bit k i) (T.bit k j)]
        exact fdiv_mul hah0
      have hE2 := E_step hEb h2 ha
      have := ih (k + 1) (by (clear hn ih h2 hE hS hSb hah hab hEb hM hB hkn ha e et1 et2 hkk hz hap tnn htn hkk0 hah0 hB' hnew hE2; omega)) (by (clear hn ih hk hE hS hSb hah hab hEb hM hB hkn ha et1 et2 hkk hz hap tnn htn hkk0 hah0 hB' hnew hE2; omega)) (elim M k ah) (-2 * E * w k) (M k k) (S + w k) (Int.mul_ne_zero (Int.mul_ne_zero (by decide) hE) hz) (by (clear hn ih hk h2 hE hSb hah hab hEb hM hB hkn e et1 hkk hz tnn htn hkk0 hah0 hB' hnew hE2; omega)) (by (clear hn ih hk h2 hE hS hah hab hEb hM hB hkn ha e et1 hkk hz hap tnn htn hkk0 hah0 hB' hnew hE2; omega)) (by rw [hkk]; grind) (hB k k hkn hkn) hE2 hnew ?_
      · rw [et1, et2]
        have e3 : -(E * (-2) ^ (d + 1) * (w k * (tail w n (d + 1)).1) * (S + (w k + (tail w n (d + 1)).2))) = -(-2 * E * w k * (-2) ^ d * (tail w n (d + 1)).1 * (S + w k + (tail w n (d + 1)).2)) := by
          rw [Int.pow_succ]; grind
        rw [e3]; exact this
      · intro i j hi hj
        by_cases q : k < i ∧ k < j
        · rw [hnew i j q.1 hi q.2 hj, Int.natAbs_mul]
          have t := T_bound T hn (S := S + w k) ⟨by (clear hn ih hk h2 hE hSb hah hab hEb hM hB hkn e et1 hkk hz tnn htn hkk0 hah0 hB' hnew hE2 hi hj q; omega), by (clear hn ih hk h2 hE hS hah hab hEb hM hB hkn ha e et1 hkk hz hap tnn hkk0 hah0 hB' hnew hE2 hi hj q; omega)⟩ (k + 1) i j
          refine Nat.le_trans (Nat.mul_le_mul hE2 t) ?_
          rw [← Nat.pow_add]
          exact Nat.pow_le_pow_right (by decide) (by (clear ih hE hS hSb hah hab hEb hM hB hkn ha et1 et2 hkk hz hap tnn htn hkk0 hah0 hB' hnew hE2 hj t; omega))
        · unfold elim; rw [if_neg q]; exact hB i j hi hj
end
end Mine

set_option maxRecDepth 100000
set_option maxHeartbeats 1000000
namespace Mine
theorem least {P : Nat → Prop} : ∀ (n : Nat), (∃ i, i < n ∧ P i) → ∃ p, p < n ∧ P p ∧ ∀ i, i < p → ¬ P i := by
  intro n
  induction n with
  | zero => rintro ⟨i, h, _⟩; exact absurd h (Nat.not_lt_zero _)
  | succ n ih =>
    intro h
    by_cases q : ∃ i, i < n ∧ P i
    · obtain ⟨p, h1, h2, h3⟩ := ih q
      exact ⟨p, by (clear ih h3; omega), h2, h3⟩
    · obtain ⟨i, hi, hp⟩ := h
      have hin : i = n := by
        by_cases z : i < n
        · exact absurd ⟨i, z, hp⟩ q
        · (clear ih q; omega)
      subst hin
      exact ⟨i, by (clear ih q; omega), hp, fun j hj hpj => q ⟨j, hj, hpj⟩⟩
theorem first_alg (a ci cj hi hj m : Int) (h1 : ci = 0 ∨ ci = 1) (h2 : cj = 0 ∨ cj = 1) :
    (((a * ci * ci + hi) + (a * cj * cj + hj) - 2 * (a * ci * cj + m)) * a - (a * ci * ci + hi) * (a + (a * cj * cj + hj) - 2 * (a * cj))) * (a * a) - (((a * ci * ci + hi) + a - 2 * (a * ci)) * a) * ((a * cj * cj + hj) * a)
      = a * ((-2 * a) * (a * m + hi * hj)) := by
  rcases h1 with rfl | rfl <;> rcases h2 with rfl | rfl <;> grind
theorem prod_bound {x y : Int} {b : Nat} (hx : x.natAbs ≤ b) (hy : y.natAbs ≤ b) : (x * y).natAbs ≤ b * b := by
  rw [Int.natAbs_mul]; exact Nat.mul_le_mul hx hy
section
variable {n : Nat} {w : Nat → Int} {c : Nat → Nat → Int}
theorem dist_bound (T : Tree n w c) (hn : n ≤ 7) (i j : Nat) : (dist n w c i j).natAbs ≤ 2 ^ 26 := by
  have h1 := mm_bound T 1 i j
  have h2 := mm_bound T 1 i i
  have h3 := mm_bound T 1 j j
  rw [dist_mm T]
  omega
theorem worth_tree (T : Tree n w c) (hn : n ≤ 7) (d : Nat) (hd : d + 3 = n) (hsum : (tail w n (d + 2)).2 ≤ 2 ^ 24) : Worth n (-((-2) ^ (d + 1) * (tail w n (d + 2)).1 * (tail w n (d + 2)).2)) 0 (dist n w c) 1 1 := by
  have ha := T.pos 1
  have e1 : n - (d + 1 + 1) = 1 := by (clear hn hsum ha; omega)
  have et1 : (tail w n (d + 2)).1 = w 1 * (tail w n (d + 1)).1 := by rw [tail, e1]
  have et2 : (tail w n (d + 2)).2 = w 1 + (tail w n (d + 1)).2 := by rw [tail, e1]
  have db := dist_bound T hn
  have db' : ∀ i j, i < n → j < n → (dist n w c i j).natAbs < 2 ^ 1000 := fun i j _ _ => small_bound (db i j) (by decide)
  have d00 : dist n w c 0 0 = 0 := by rw [dist_root T, mm_zero T (by (clear hn hd hsum ha e1 et1 et2 db db'; omega))]
  have h11 : mm n w c 1 1 1 = w 1 := by rw [mm_row T (Nat.le_refl _) (by (clear hsum ha e1 et1 et2 db db' d00; omega)), T.self 1 (Nat.le_refl _) (by (clear hsum ha e1 et1 et2 db db' d00; omega)), Int.mul_one]
  have d11 : dist n w c 1 1 = 0 := by rw [dist_mm T]; (clear hn hd hsum ha e1 et1 et2 db db' d00 h11; omega)
  have d10 : dist n w c 1 0 = w 1 := by rw [dist_root T, h11]
  have d01 : dist n w c 0 1 = w 1 := by rw [root_dist T, h11]
  have d1 : ∀ j, dist n w c 1 j = w 1 + mm n w c 1 j j - 2 * (w 1 * c 1 j) := fun j => by rw [dist_mm T, h11, mm_row T (Nat.le_refl _) (by (clear hsum ha e1 et1 et2 db db' d00 h11 d11 d10 d01; omega))]
  have dj1 : ∀ i, dist n w c i 1 = mm n w c 1 i i + w 1 - 2 * (w 1 * c 1 i) := fun i => by rw [dist_mm T, h11, mm_col T (Nat.le_refl _) (by (clear hsum ha e1 et1 et2 db db' d00 h11 d11 d10 d01 d1; omega))]
  by_cases hz : w 1 = 0
  · -- the first edge weighs nothing
    have eres : -((-2) ^ (d + 1) * (tail w n (d + 2)).1 * (tail w n (d + 2)).2) = 0 := by rw [et1, hz]; simp
    rw [eres]
    by_cases hall : ∃ i, i < n ∧ dist n w c i 0 ≠ 0
    · obtain ⟨p, hp, hp0, hmin⟩ := least n hall
      have hp1 : p ≠ 0 := by rintro rfl; exact hp0 d00
      refine .step p (by (clear hsum ha e1 et1 et2 db db' d00 h11 d11 d10 d01 d1 dj1 hz eres hp hp0 hmin hp1; omega)) (Nat.zero_le _) hp hp0 (fun i _ hi => Decidable.byContradiction fun h => hmin i hi h) (by decide) (by decide) db' (.zero (by (clear hsum ha e1 et1 et2 db db' d00 h11 d11 d10 d01 d1 dj1 hz eres hp hp0 hmin hp1; omega)) (fun i h1 hi => ?_) rfl)
      have hcol : ∀ x, dist n w c x 1 = dist n w c x 0 := fun x => by rw [dj1, dist_root T, hz]; simp
      have hs : ∀ x, swp (dist n w c) 0 p x 1 = swp (dist n w c) 0 p x 0 := fun x => by
        unfold swp; split
        · exact hcol _
        · split <;> exact hcol _
      unfold elim
      rw [if_pos (by (clear hn hd hsum ha e1 et1 et2 db db' d00 h11 d11 d10 d01 d1 dj1 hz eres hp hp0 hmin hp1 hi hcol hs; omega)), hs i, hs 0]
      have : swp (dist n w c) 0 p i 0 * swp (dist n w c) 0 p 0 0 - swp (dist n w c) 0 p i 0 * swp (dist n w c) 0 p 0 0 = 0 := Int.sub_self _
      rw [this]; rfl
    · refine .zero (by (clear hsum ha e1 et1 et2 db db' d00 h11 d11 d10 d01 d1 dj1 hz eres hall; omega)) (fun i _ hi => Decidable.byContradiction fun h => hall ⟨i, hi, h⟩) rfl
  · have d10' : dist n w c 1 0 ≠ 0 := by rw [d10]; exact hz
    refine .step 1 (by (clear hsum ha e1 et1 et2 db db' d00 h11 d11 d10 d01 d1 dj1 hz d10'; omega)) (by (clear hn hd hsum ha e1 et1 et2 db db' d00 h11 d11 d10 d01 d1 dj1 hz d10'; omega)) (by (clear hsum ha e1 et1 et2 db db' d00 h11 d11 d10 d01 d1 dj1 hz d10'; omega)) d10' (fun i _ hi => ?_) (by decide) (by decide) db' ?_
    · have : i = 0 := by (clear hn hd hsum ha e1 et1 et2 db db' d00 h11 d11 d10 d01 d1 dj1 hz d10'; omega)
      subst this; exact d00
    have es00 : swp (dist n w c) 0 1 0 0 = w 1 := by unfold swp; rw [if_pos rfl]; exact d10
    rw [if_neg (by decide : ¬ (1 : Nat) = 0), es00]
    have s0 : ∀ j, swp (dist n w c) 0 1 0 j = dist n w c 1 j := fun j => by unfold swp; rw [if_pos rfl]
    have s1 : ∀ j, swp (dist n w c) 0 1 1 j = dist n w c 0 j := fun j => by unfold swp; rw [if_neg (by decide), if_pos rfl]
    have si : ∀ i j, 2 ≤ i → swp (dist n w c) 0 1 i j = dist n w c i j := fun i j h => by unfold swp; rw [if_neg (by (clear hn hd hsum ha e1 et1 et2 db db' d00 h11 d11 d10 d01 d1 dj1 hz d10' es00 s0 s1; omega)), if_neg (by (clear hn hd hsum ha e1 et1 et2 db db' d00 h11 d11 d10 d01 d1 dj1 hz d10' es00 s0 s1; omega))]
    have sb : ∀ i j, (swp (dist n w c) 0 1 i j).natAbs ≤ 2 ^ 26 := fun i j => by
      unfold swp; split
      · exact db _ _
      · split <;> exact db _ _
    have A1 : ∀ j, 1 ≤ j → elim (swp (dist n w c) 0 1) 0 1 1 j = dist n w c 0 j * w 1 := fun j hj => by
      unfold elim
      rw [if_pos (by (clear hn hd hsum ha e1 et1 et2 db db' d00 h11 d11 d10 d01 d1 dj1 hz d10' es00 s0 s1 si sb; omega)), Int.fdiv_one, es00, s1, s1, d00, Int.zero_mul, Int.sub_zero]
    have Ai : ∀ i j, 2 ≤ i → 1 ≤ j → elim (swp (dist n w c) 0 1) 0 1 i j = dist n w c i j * w 1 - dist n w c i 0 * dist n w c 1 j := fun i j hi hj => by
      unfold elim
      rw [if_pos (by (clear hn hd hsum ha e1 et1 et2 db db' d00 h11 d11 d10 d01 d1 dj1 hz d10' es00 s0 s1 si sb A1; omega)), Int.fdiv_one, es00, s0, si _ _ hi, si _ _ hi]
    have Ab : ∀ i j, (elim (swp (dist n w c) 0 1) 0 1 i j).natAbs ≤ 2 ^ 100 := fun i j => by
      unfold elim
      split
      · rw [Int.fdiv_one]
        have p1 := prod_bound (sb i j) (sb 0 0)
        have p2 := prod_bound (sb i 0) (sb 0 j)
        generalize swp (dist n w c) 0 1 i j * swp (dist n w c) 0 1 0 0 = x at *
        generalize swp (dist n w c) 0 1 i 0 * swp (dist n w c) 0 1 0 j = y at *
        have : (x - y).natAbs ≤ x.natAbs + y.natAbs := by (clear hn hd hsum ha e1 et1 et2 db db' d00 h11 d11 d10 d01 d1 dj1 hz d10' es00 s0 s1 si sb A1 Ai; omega)
        refine Nat.le_trans this (Nat.le_trans (Nat.add_le_add p1 p2) (by decide))
      · exact Nat.le_trans (sb i j) (by decide)
    generalize elim (swp (dist n w c) 0 1) 0 1 = A at *
    have A11 : A 1 1 = w 1 * w 1 := by rw [A1 1 (Nat.le_refl _), d01]
    have A11' : A 1 1 ≠ 0 := by rw [A11]; exact Int.mul_ne_zero hz hz
    have wb : (w 1).natAbs ≤ 2 ^ 21 := by (clear hn hd hsum e1 et1 et2 db db' d00 d11 d1 dj1 hz d10' s0 s1 si sb A1 Ai Ab A11 A11'; omega)
    refine .step 1 (by (clear hsum ha e1 et1 et2 db db' d00 h11 d11 d10 d01 d1 dj1 hz d10' es00 s0 s1 si sb A1 Ai Ab A11 A11' wb; omega)) (Nat.le_refl _) (by (clear hsum ha e1 et1 et2 db db' d00 h11 d11 d10 d01 d1 dj1 hz d10' es00 s0 s1 si sb A1 Ai Ab A11 A11' wb; omega)) A11' (fun i h1 h2 => absurd h1 (by (clear hn hd hsum ha e1 et1 et2 db db' d00 h11 d11 d10 d01 d1 dj1 hz d10' es00 s0 s1 si sb A1 Ai Ab A11 A11' wb; omega))) hz (small_bound wb (by decide)) (fun i j _ _ => small_bound (Ab i j) (by decide)) ?_
    rw [swp_self, if_pos rfl]
    have hB : ∀ i j, 2 ≤ i → i < n → 2 ≤ j → j < n → elim A 1 (w 1) i j = (-2 * w 1) * (w 1 * mm n w c 2 i j + mm n w c 2 i i * mm n w c 2 j j) := by
      intro i j h1 h2 h3 h4
      unfold elim
      rw [if_pos (by (clear hn hd hsum ha e1 et1 et2 db db' d00 h11 d11 d10 d01 d1 dj1 hz d10' es00 s0 s1 si sb A1 Ai Ab A11 A11' wb h2 h4; omega)), A11, A1 j (by (clear hn hd hsum ha e1 et1 et2 db db' d00 h11 d11 d10 d01 d1 dj1 hz d10' es00 s0 s1 si sb A1 Ai Ab A11 A11' wb h1 h2 h4; omega)), Ai i j h1 (by (clear hn hd hsum ha e1 et1 et2 db db' d00 h11 d11 d10 d01 d1 dj1 hz d10' es00 s0 s1 si sb A1 Ai Ab A11 A11' wb h1 h2 h4; omega)), Ai i 1 h1 (Nat.le_refl _), d11, Int.mul_zero, Int.sub_zero, dist_root T, root_dist T, d1, dj1, dist_mm T i j]
      rw [mm_step 1 i j (by (clear hsum ha e1 et1 et2 db db' d00 h11 d11 d10 d01 d1 dj1 hz d10' es00 s0 s1 si sb A1 Ai Ab A11 A11' wb h1 h2 h3 h4; omega)), mm_step 1 i i (by (clear hsum ha e1 et1 et2 db db' d00 h11 d11 d10 d01 d1 dj1 hz d10' es00 s0 s1 si sb A1 Ai Ab A11 A11' wb h1 h2 h3 h4; omega)), mm_step 1 j j (by (clear hsum ha e1 et1 et2 db db' d00 h11 d11 d10 d01 d1 dj1 hz d10' es00 s0 s1 si sb A1 Ai Ab A11 A11' wb h1 h2 h3 h4; omega))]
      rw [first_alg (w 1) (c 1 i) (c 1 j) _ _ _ (T.bit 1 i) (T.bit 1 j)]
      exact fdiv_mul hz
    have E2 : (-2 * w 1).natAbs ≤ 2 ^ (22 * (2 - 1)) := by rw [Int.natAbs_mul]; exact Nat.le_trans (Nat.mul_le_mul (by decide : (-2 : Int).natAbs ≤ 2) wb) (by decide)
    have tnn : ∀ m, 0 ≤ (tail w n m).2 := by
      intro m
      induction m with
      | zero => exact Int.le_refl _
      | succ m ihm => rw [tail]; have := T.pos (n - (m + 1)); simp only; (clear hn hd hsum ha e1 et1 et2 db db' d00 h11 d11 d10 d01 d1 dj1 hz d10' es00 s0 s1 si sb A1 Ai Ab A11 A11' wb hB E2; omega)
    have htn := tnn (d + 1)
    rw [et2] at hsum
    have := worth_tail T hn d 2 (by (clear hn hsum ha e1 et1 et2 db db' d00 h11 d11 d10 d01 d1 dj1 hz d10' es00 s0 s1 si sb A1 Ai Ab A11 A11' wb hB E2 tnn htn; omega)) (Nat.le_refl _) (elim A 1 (w 1)) (-2 * w 1) (A 1 1) (w 1) (Int.mul_ne_zero (by decide) hz) (by (clear hn hd hsum e1 et1 db db' d00 d11 d1 dj1 hz s0 s1 si sb A1 Ai Ab A11 wb hB E2 tnn htn; omega)) (by (clear hn hd ha e1 et1 et2 db db' d00 h11 d11 d10 d01 d1 dj1 hz d10' es00 s0 s1 si sb A1 Ai Ab A11 A11' wb hB E2 tnn htn; omega)) (by rw [A11]; grind) (Nat.le_trans (Ab 1 1) (Nat.pow_le_pow_right (by decide) (by decide))) E2 hB ?_
    · have e3 : -((-2) ^ (d + 1) * (tail w n (d + 2)).1 * (tail w n (d + 2)).2) = -(-2 * w 1 * (-2) ^ d * (tail w n (d + 1)).1 * (w 1 + (tail w n (d + 1)).2)) := by
        rw [et1, et2, Int.pow_succ]; grind
      rw [e3]; exact this
    · intro i j hi hj
      by_cases q : 1 < i ∧ 1 < j
      · rw [hB i j q.1 hi q.2 hj, Int.natAbs_mul]
        have t := T_bound T hn (S := w 1) ⟨by (clear hn hd hsum e1 et1 db db' d00 d11 d1 dj1 hz d10' s0 s1 si sb A1 Ai Ab A11 A11' wb hB E2 tnn htn hi hj q; omega), by (clear hn hd hsum e1 et1 db db' d00 d11 d1 dj1 hz d10' s0 s1 si sb A1 Ai Ab A11 A11' wb hB E2 tnn htn hi hj q; omega)⟩ 2 i j
        refine Nat.le_trans (Nat.mul_le_mul E2 t) ?_
        rw [← Nat.pow_add]
        exact Nat.pow_le_pow_right (by decide) (by decide)
      · unfold elim; rw [if_neg q]; exact Nat.le_trans (Ab i j) (Nat.pow_le_pow_right (by decide) (by decide))
end
end Mine

set_option maxRecDepth 100000
set_option maxHeartbeats 1000000
namespace Mine
/-! lists and sums -/
theorem sum_list {n : Nat} {w : Nat → Nat} : ∀ {L : List Nat}, L.Nodup → (∀ e ∈ L, e < n) → (((L.map w).sum : Nat) : Int) = SM n fun e => if e ∈ L then (w e : Int) else 0
  | [], _, _ => by
    rw [show SM n (fun e => if e ∈ ([] : List Nat) then (w e : Int) else 0) = SM n fun _ => 0 from SM_congr fun e _ => by simp, SM_const]; rfl
  | x :: L, hn, h => by
    rw [List.nodup_cons] at hn
    have ih := sum_list (n := n) (w := w) hn.2 fun e he => h e (List.mem_cons_of_mem _ he)
    rw [List.map_cons, List.sum_cons, Int.natCast_add, ih]
    have e : SM n (fun e => if e ∈ x :: L then (w e : Int) else 0) = SM n (fun e => (if e = x then (w e : Int) else 0) + (if e ∈ L then (w e : Int) else 0)) := by
      refine SM_congr fun e _ => ?_
      by_cases q : e = x
      · subst q; rw [if_pos (List.mem_cons_self ..), if_pos rfl, if_neg hn.1, Int.add_zero]
      · rw [if_neg q, Int.zero_add]
        by_cases z : e ∈ L
        · rw [if_pos z, if_pos (List.mem_cons_of_mem _ z)]
        · rw [if_neg z, if_neg (by simp [q, z])]
    rw [e, SM_add, SM_single, if_pos (h x (List.mem_cons_self ..))]
theorem sum_getD (g : Nat → Int) : ∀ (L : List Nat), (L.map g).sum = SM L.length fun i => g (L.getD i 0)
  | [] => rfl
  | x :: L => by
    rw [List.map_cons, List.sum_cons, sum_getD g L, List.length_cons, SM_shift]; rfl
theorem sum_count {n : Nat} (g : Nat → Int) : ∀ {L : List Nat}, (∀ e ∈ L, e < n) → SM n (fun v => g v * ((L.count v : Nat) : Int)) = (L.map g).sum
  | [], _ => by
    refine (SM_congr (g := fun _ => 0) fun v _ => ?_).trans (SM_const n)
    simp
  | x :: L, h => by
    rw [List.map_cons, List.sum_cons, ← sum_count g fun e he => h e (List.mem_cons_of_mem _ he)]
    have e : SM n (fun v => g v * (((x :: L).count v : Nat) : Int)) = SM n (fun v => (if v = x then g v else 0) + g v * ((L.count v : Nat) : Int)) := by
      refine SM_congr fun v _ => ?_
      rw [List.count_cons]
      by_cases q : v = x
      · subst q; simp [Int.mul_add]; (clear h; omega)
      · have : (x == v) = false := by simpa using Ne.symm q
        rw [this, if_neg q]; simp
    rw [e, SM_add, SM_single, if_pos (h x (List.mem_cons_self ..))]
def cN (ps : List Nat) (e v : Nat) : Int := if e ∈ lineN ps v then 1 else 0
def wZ (ws : List Nat) (e : Nat) : Int := ((ws.getD e 0 : Nat) : Int)
section
variable {ps ws : List Nat}
theorem line_up (hp : ∀ u, 0 < u → u < ps.length → ps.getD u 0 < u) {u : Nat} (h : 0 < u) (hu : u < ps.length) (e : Nat) : cN ps e u = cN ps e (ps.getD u 0) + if e = u then 1 else 0 := by
  unfold cN
  rw [line_pos h (hp u h hu)]
  by_cases q : e = u
  · subst q
    rw [if_pos (List.mem_cons_self ..), if_neg, if_pos rfl]; rfl
    intro hm
    have := line_mem ps _ e hm
    have := hp e h hu
    (clear hp h hu; omega)
  · by_cases z : e ∈ lineN ps (ps.getD u 0)
    · rw [if_pos (List.mem_cons_of_mem _ z), if_pos z, if_neg q]; rfl
    · rw [if_neg (fun hm => (List.mem_cons.mp hm).elim q z), if_neg z, if_neg q]; rfl
theorem tree_of (hp : ∀ u, 0 < u → u < ps.length → ps.getD u 0 < u) (hw : ∀ x ∈ ws, x < 2 ^ 21) : Tree ps.length (wZ ws) (cN ps) := by
  refine ⟨fun e v => ?_, fun e h1 h2 => ?_, fun e v h => ?_, fun v => ?_, fun e => ?_⟩
  · unfold cN; split
    · exact .inr rfl
    · exact .inl rfl
  · unfold cN; rw [line_pos (by (clear hp hw h2; omega)) (hp e (by (clear hp hw h2; omega)) h2), if_pos (List.mem_cons_self ..)]
  · unfold cN; rw [if_neg]; intro hm; have := line_mem ps v e hm; (clear hp hw; omega)
  · unfold cN; rw [if_neg]; intro hm; have := line_mem ps v 0 hm; (clear hp hw; omega)
  · unfold wZ
    have : ws.getD e 0 < 2 ^ 21 := by
      by_cases q : e < ws.length
      · exact hw _ (getD_mem q)
      · rw [List.getD_eq_getElem?_getD, List.getElem?_eq_none (by (clear hp hw; omega))]; decide
    (clear hp hw; omega)
theorem way_eq {ps a b c : List Nat} {u v : Nat} (h1 : lineN ps u = a ++ c) (h2 : lineN ps v = b ++ c) (h3 : ∀ e ∈ a, e ∉ b) : wayN ps u v = a ++ b ∧ (a ++ b).Nodup ∧ (∀ e, e ∈ a ++ b ↔ ¬ (e ∈ lineN ps u ↔ e ∈ lineN ps v)) := by
  have s1 := line_sorted ps u
  have s2 := line_sorted ps v
  rw [h1] at s1
  rw [h2] at s2
  obtain ⟨sa, sc, sac⟩ := List.pairwise_append.mp s1
  obtain ⟨sb, -, sbc⟩ := List.pairwise_append.mp s2
  have ac : ∀ e ∈ a, e ∉ c := fun e he hc => absurd (sac e he e hc) (Nat.lt_irrefl _)
  have bc : ∀ e ∈ b, e ∉ c := fun e he hc => absurd (sbc e he e hc) (Nat.lt_irrefl _)
  have h3' : ∀ e ∈ b, e ∉ a := fun e he ha => h3 e ha he
  refine ⟨?_, ?_, fun e => ?_⟩
  · unfold wayN
    rw [h1, h2, List.filter_append, List.filter_append, List.filter_append]
    have fa : a.filter (fun e => decide (e ∈ a ++ c) != decide (e ∈ b ++ c)) = a := by
      rw [List.filter_eq_self]
      intro e he
      simp [he, h3 e he, ac e he]
    have fb : b.filter (fun e => decide (e ∈ a ++ c) != decide (e ∈ b ++ c)) = b := by
      rw [List.filter_eq_self]
      intro e he
      simp [he, h3' e he, bc e he]
    have fc : c.filter (fun e => decide (e ∈ a ++ c) != decide (e ∈ b ++ c)) = [] := by
      rw [List.filter_eq_nil_iff]
      intro e he
      simp [he]
    rw [fa, fb, fc]; simp
  · rw [List.nodup_append]
    refine ⟨sa.imp fun h => Nat.ne_of_gt h, sb.imp fun h => Nat.ne_of_gt h, fun e he f hf => ?_⟩
    rintro rfl; exact h3 e he hf
  · rw [h1, h2]
    simp only [List.mem_append]
    by_cases ea : e ∈ a
    · simp [ea, h3 e ea, ac e ea]
    · by_cases eb : e ∈ b
      · simp [ea, eb, bc e eb]
      · simp [ea, eb]
theorem forks_far {ps ws seg : List Nat} {u v : Nat} (hlen : ps.length = ws.length) (hu : u < ps.length) (hv : v < ps.length) (F : Forks ps ws seg u v) : ((farN seg : Nat) : Int) = dist ps.length (wZ ws) (cN ps) u v := by
  obtain ⟨a, b, c, h1, h2, h3, j⟩ := F
  obtain ⟨hw, hnd, hm⟩ := way_eq h1 h2 h3
  rw [j.far, ← List.sum_append, ← List.map_append, sum_list (n := ps.length) hnd]
  · unfold dist
    refine SM_congr fun e _ => ?_
    have := hm e
    unfold cN
    by_cases p1 : e ∈ lineN ps u <;> by_cases p2 : e ∈ lineN ps v
    · rw [if_neg (by simp [this, p1, p2]), if_pos p1, if_pos p2]; simp
    · rw [if_pos (by simp [this, p1, p2]), if_pos p1, if_neg p2]; simp [wZ, wF]
    · rw [if_pos (by simp [this, p1, p2]), if_neg p1, if_pos p2]; simp [wZ, wF]
    · rw [if_neg (by simp [this, p1, p2]), if_neg p1, if_neg p2]; simp
  · intro e he
    rcases List.mem_append.mp he with q | q
    · have := line_mem ps u e (by rw [h1]; exact List.mem_append_left _ q); (clear hv h3 hm; omega)
    · have := line_mem ps v e (by rw [h2]; exact List.mem_append_left _ q); (clear hu h3 hm; omega)
/-! the rows -/
theorem ends_gen {m : Nat} (hn : ps.length = m + 1) (hp : ∀ u, 0 < u → u < ps.length → ps.getD u 0 < u) (g : Nat → Int) :
    SM (m + 1) (fun v => g v * endI ps v) = 2 * g 0 + SM m (fun i => g (i + 1)) - SM m (fun i => g (ps.getD (i + 1) 0)) := by
  have hl : (ps.drop 1).length = m := by rw [List.length_drop]; (clear hp; omega)
  have hg : ∀ i, (ps.drop 1).getD i 0 = ps.getD (i + 1) 0 := fun i => by
    rw [List.getD_eq_getElem?_getD, List.getElem?_drop, List.getD_eq_getElem?_getD, Nat.add_comm]
  have hlt : ∀ e ∈ ps.drop 1, e < m + 1 := fun e he => by
    obtain ⟨i, hi, rfl⟩ := List.getElem_of_mem he
    have h1 := hp (i + 1) (by (clear hn hp hl hg; omega)) (by (clear hp hg; omega))
    rw [← hg i, List.getD_eq_getElem?_getD, List.getElem?_eq_getElem hi] at h1
    have h2 : (ps.drop 1)[i] < i + 1 := h1
    (clear hn hp hg h1; omega)
  have e1 : SM (m + 1) (fun v => g v * endI ps v) = SM (m + 1) (fun v => 2 * g v - g v * (((ps.drop 1).count v : Nat) : Int) - (if 0 < v then g v else 0)) := by
    refine SM_congr fun v _ => ?_
    unfold endI
    split
    · rw [Int.mul_sub, Int.mul_sub, Int.mul_one, Int.mul_comm (g v) 2]
    · rw [Int.mul_sub, Int.mul_sub, Int.mul_zero, Int.mul_comm (g v) 2]
  have e2 : SM m (fun i => g ((ps.drop 1).getD i 0)) = SM m (fun i => g (ps.getD (i + 1) 0)) := SM_congr fun i _ => by rw [hg]
  have e3 : SM (m + 1) (fun v => if 0 < v then g v else 0) = SM m (fun i => g (i + 1)) := by
    rw [SM_shift, if_neg (Nat.lt_irrefl 0), Int.zero_add]
    exact SM_congr fun i _ => by rw [if_pos (Nat.succ_pos i)]
  rw [e1, SM_sub, SM_sub, SM_mul, sum_count g hlt, sum_getD, hl, e2, e3, SM_shift]
  (clear hn hp hl hg hlt e1 e2 e3; omega)
theorem SM_one (n : Nat) : SM n (fun _ => 1) = n := by
  induction n with
  | zero => rfl
  | succ n ih => rw [SM_succ, ih]; (clear ih; omega)
theorem ends_two {m : Nat} (hn : ps.length = m + 1) (hp : ∀ u, 0 < u → u < ps.length → ps.getD u 0 < u) : SM (m + 1) (fun v => endI ps v) = 2 := by
  have h := ends_gen hn hp fun _ => 1
  rw [SM_one] at h
  have e : SM (m + 1) (fun v => 1 * endI ps v) = SM (m + 1) (fun v => endI ps v) := SM_congr fun v _ => Int.one_mul _
  rw [e] at h
  (clear hn hp e; omega)
theorem ends_one {m : Nat} (hn : ps.length = m + 1) (hp : ∀ u, 0 < u → u < ps.length → ps.getD u 0 < u) {e : Nat} (h1 : 1 ≤ e) (h2 : e ≤ m) : SM (m + 1) (fun v => cN ps e v * endI ps v) = 1 := by
  rw [ends_gen hn hp (cN ps e)]
  have e0 : cN ps e 0 = 0 := by unfold cN; rw [line_zero]; rfl
  have e1 : SM m (fun i => cN ps e (i + 1)) = SM m (fun i => cN ps e (ps.getD (i + 1) 0) + (if i = e - 1 then 1 else 0)) := by
    refine SM_congr fun i hi => ?_
    rw [line_up hp (Nat.succ_pos i) (by (clear hp h1 h2 e0; omega)) e]
    by_cases q : e = i + 1
    · rw [if_pos q, if_pos (by (clear hn hp h1 h2 e0 hi; omega))]
    · rw [if_neg q, if_neg (by (clear hn hp h2 e0 hi; omega))]
  rw [e0, e1, SM_add, SM_single m (e - 1) fun _ => 1, if_pos (by (clear hn hp e0 e1; omega))]
  (clear hn hp h1 h2 e0 e1; omega)
theorem row_sum {m : Nat} (hn : ps.length = m + 1) (hp : ∀ u, 0 < u → u < ps.length → ps.getD u 0 < u) (h0 : ws.getD 0 0 = 0) (i : Nat) : SM (m + 1) (fun v => dist (m + 1) (wZ ws) (cN ps) i v * endI ps v) = SM (m + 1) (wZ ws) := by
  have e1 : SM (m + 1) (fun v => dist (m + 1) (wZ ws) (cN ps) i v * endI ps v) = SM (m + 1) (fun v => SM (m + 1) (fun e => endI ps v * (wZ ws e * (cN ps e i + cN ps e v - 2 * cN ps e i * cN ps e v)))) := by
    refine SM_congr fun v _ => ?_
    rw [SM_mul, Int.mul_comm]; rfl
  rw [e1, SM_swap]
  refine SM_congr fun e he => ?_
  have e2 : SM (m + 1) (fun v => endI ps v * (wZ ws e * (cN ps e i + cN ps e v - 2 * cN ps e i * cN ps e v))) = SM (m + 1) (fun v => (wZ ws e * cN ps e i) * endI ps v + (wZ ws e * (1 - 2 * cN ps e i)) * (cN ps e v * endI ps v)) := by
    refine SM_congr fun v _ => ?_
    generalize endI ps v = x
    generalize cN ps e v = y
    generalize cN ps e i = z
    generalize wZ ws e = t
    grind
  rw [e2, SM_add, SM_mul, SM_mul, ends_two hn hp]
  by_cases q : 1 ≤ e
  · rw [ends_one hn hp q (by (clear hn hp h0 e1 e2 q; omega))]
    generalize cN ps e i = z
    generalize wZ ws e = t
    grind
  · have : e = 0 := by (clear hn hp h0 e1 he e2; omega)
    subst this
    have : wZ ws 0 = 0 := by unfold wZ; rw [h0]; rfl
    rw [this]; simp
/-! the product and the sum of the weights -/
theorem drop_getD {l : List Nat} {i : Nat} (h : i < l.length) : l.drop i = l.getD i 0 :: l.drop (i + 1) := by
  rw [List.drop_eq_getElem_cons h, List.getD_eq_getElem?_getD, List.getElem?_eq_getElem h]; rfl
theorem tail_eq (ws : List Nat) : ∀ d, d ≤ ws.length → (tail (wZ ws) ws.length d).1 = prodI (ws.drop (ws.length - d)) ∧ (tail (wZ ws) ws.length d).2 = (((ws.drop (ws.length - d)).sum : Nat) : Int)
  | 0, _ => by
    rw [Nat.sub_zero, List.drop_length]; exact ⟨rfl, rfl⟩
  | d + 1, h => by
    obtain ⟨h1, h2⟩ := tail_eq ws d (by omega)
    rw [tail]
    have e : ws.length - (d + 1) + 1 = ws.length - d := by (clear h1 h2; omega)
    rw [drop_getD (show ws.length - (d + 1) < ws.length by (clear h1 h2; omega)), e]
    refine ⟨?_, ?_⟩
    · show wZ ws _ * _ = _
      rw [h1]; rfl
    · show wZ ws _ + _ = _
      rw [h2, List.sum_cons, Int.natCast_add]; rfl
theorem pow_neg_two (k : Nat) : (-2 : Int) ^ k = (-1) ^ k * 2 ^ k := by
  induction k with
  | zero => rfl
  | succ k ih => rw [Int.pow_succ, Int.pow_succ, Int.pow_succ, ih]; grind
end
theorem Worth.congr {n : Nat} {res : Int} {k : Nat} {M : Nat → Nat → Int} {sg ah : Int} (W : Worth n res k M sg ah) : ∀ {M' : Nat → Nat → Int}, (∀ i j, i < n → j < n → M' i j = M i j) → Worth n res k M' sg ah := by
  induction W with
  | @done k M sg ah h1 h2 h3 h4 =>
    intro M' h
    have hk : k < n := by (clear h2 h3 h4 h; omega)
    have e := h k k hk hk
    exact .done h1 h2 (by rw [e]; exact h3) (by rw [e]; exact h4)
  | @zero k M sg ah h1 h2 h3 =>
    intro M' h
    exact .zero h1 (fun i a b => by rw [h i _ b (by (clear h2 h3 h a b; omega))]; exact h2 i a b) h3
  | @step k M sg ah p h1 h2 h3 h4 h5 h6 h7 h8 next ih =>
    intro M' h
    have hs : ∀ i j, i < n → j < n → swp M' k p i j = swp M k p i j := by
      intro i j hi hj
      unfold swp
      split
      · exact h _ _ h3 hj
      · split
        · exact h _ _ (by (clear h2 h3 h4 h5 h6 h7 h8 ih h hi hj; omega)) hj
        · exact h _ _ hi hj
    have hk : k < n := by (clear h2 h3 h4 h5 h6 h7 h8 ih h hs; omega)
    refine .step p h1 h2 h3 (by rw [h _ _ h3 hk]; exact h4) (fun i a b => by rw [h i _ (by (clear h1 h2 h4 h5 h6 h7 h8 ih h hs hk a; omega)) hk]; exact h5 i a b) h6 h7 (fun i j a b => by rw [h i j a b]; exact h8 i j a b) ?_
    rw [hs k k hk hk]
    refine ih fun i j hi hj => ?_
    unfold elim
    rw [hs i j hi hj, hs k k hk hk, hs i k hi hk, hs k j hk hj]
end Mine

set_option maxRecDepth 100000
set_option maxHeartbeats 1000000
namespace Mine
theorem seg_mem {steps firsts : List Nat} {u v : Nat} : ∀ x ∈ segN steps firsts u v, x ∈ steps := fun x hx => List.mem_of_mem_drop (List.mem_of_mem_take hx)
theorem sum_le {l : List Nat} {b : Nat} (h : ∀ w ∈ l, w < b) : l.sum ≤ l.length * b := by
  induction l with
  | nil => simp
  | cons a r ih =>
    have h1 := ih fun w hw => h w (List.mem_cons_of_mem _ hw)
    have h2 := h a (List.mem_cons_self ..)
    rw [List.sum_cons, List.length_cons, Nat.succ_mul]; (clear ih h; omega)
theorem lawful (xs : List Int) (h2 : 2 ≤ xs.length) (h6 : xs.length ≤ 6) : Lawful (walkN xs).steps (walkN xs).firsts (walkN xs).parents (walkN xs).weights := by
  have W := WI.walk xs
  have O : Wk.Ok xs.length (walkN xs) := by
    have := Wk.Ok.items xs Wk.Ok.start
    rw [Nat.zero_add] at this
    exact this.closes _
  generalize walkN xs = s at *
  have olen := O.len
  have otot := O.tot
  have on2 := W.n2
  have on3 := W.n3
  have hn : s.parents.length = xs.length + 1 := by (clear h2 h6 otot; omega)
  have hst : s.steps.length ≤ 13 := by (clear hn; omega)
  have hpar : ∀ u, 0 < u → u < s.parents.length → s.parents.getD u 0 < u := fun u a b => W.par u a (by (clear h2 h6 olen otot hn hst a; omega))
  have T := tree_of hpar W.wl
  have pair0 : ∀ u v, u < v → v < s.parents.length → Forks s.parents s.weights (segN s.steps s.firsts u v) u v := fun u v a b => W.pair u v a (by (clear h2 h6 olen otot hn hst hpar a; omega))
  have segl : ∀ u v, (segN s.steps s.firsts u v).length ≤ 13 := fun u v => by
    unfold segN; rw [List.length_take, List.length_drop]; (clear h2 h6 hn hpar pair0; omega)
  have tab : ∀ i j, i < s.parents.length → j < s.parents.length → tabN s.steps s.firsts i j = dist s.parents.length (wZ s.weights) (cN s.parents) i j := by
    intro i j hi hj
    unfold tabN
    by_cases q : i = j
    · subst q
      rw [if_pos rfl, dist_mm T]; (clear h2 h6 olen otot on2 on3 hn hst hpar pair0 segl hi hj; omega)
    · rw [if_neg q, forks_far on3 (u := min i j) (v := max i j) (by (clear h2 h6 olen otot on2 on3 hn hst hpar pair0 segl q; omega)) (by (clear h2 h6 olen otot on2 on3 hn hst hpar pair0 segl q; omega)) (pair0 _ _ (by (clear h2 h6 olen otot on2 on3 hn hst hpar pair0 segl hi hj; omega)) (by (clear h2 h6 olen otot on2 on3 hn hst hpar pair0 segl q; omega)))]
      by_cases z : i < j
      · rw [Nat.min_eq_left (by (clear h2 h6 olen otot on2 on3 hn hst hpar pair0 segl hi hj q; omega)), Nat.max_eq_right (by (clear h2 h6 olen otot on2 on3 hn hst hpar pair0 segl hi hj q; omega))]
      · rw [Nat.min_eq_right (by (clear h2 h6 olen otot on2 on3 hn hst hpar pair0 segl hi hj q; omega)), Nat.max_eq_left (by (clear h2 h6 olen otot on2 on3 hn hst hpar pair0 segl hi hj q; omega)), dist_sym T]
  have wcons : s.weights = 0 :: s.weights.drop 1 := by
    have := drop_getD (l := s.weights) (i := 0) W.n1
    rw [List.drop_zero, W.w0] at this
    exact this
  have wsum : (s.weights.drop 1).sum = s.weights.sum := by
    conv => rhs; rw [wcons]
    rw [List.sum_cons, Nat.zero_add]
  have hwsum : SM s.parents.length (wZ s.weights) = ((s.weights.sum : Nat) : Int) := by
    have h1 := sum_getD (fun x : Nat => (x : Int)) s.weights
    rw [on3]
    refine h1.symm.trans ?_
    generalize s.weights = l
    induction l with
    | nil => rfl
    | cons x r ih => rw [List.map_cons, List.sum_cons, ih, List.sum_cons, Int.natCast_add]
  refine ⟨by (clear otot hn hst hpar pair0 segl tab wsum hwsum; omega), by (clear h2 h6 hn hpar pair0 segl tab wsum hwsum; omega), by (clear h2 h6 olen otot hn hst hpar pair0 segl tab wsum hwsum; omega), by (clear h2 h6 olen otot hn hst hpar pair0 segl tab wsum hwsum; omega), by (clear otot hn hst hpar pair0 segl tab wsum hwsum; omega), fun x hx => (W.st x hx).2, W.wl, fun p hp => ?_, hpar, fun u v huv hv => ?_, ?_, ?_, ?_, ?_, ?_, fun i j hi hj => ?_, fun i hi => ?_, ?_⟩
  · obtain ⟨i, hi, rfl⟩ := List.getElem_of_mem hp
    have e : s.parents[i] = s.parents.getD i 0 := by rw [List.getD_eq_getElem?_getD, List.getElem?_eq_getElem hi]; rfl
    rw [e]
    by_cases q : i = 0
    · subst q; rw [W.p0]; decide
    · have := hpar i (by (clear h2 h6 olen otot on2 on3 hn hst hpar pair0 segl tab wsum hwsum e; omega)) hi; (clear otot hn hst hpar pair0 segl tab wsum hwsum e q; omega)
  · have F := pair0 u v huv hv
    obtain ⟨a, b, c, h1, h2', h3, j⟩ := F
    obtain ⟨hw, hnd, hm⟩ := way_eq h1 h2' h3
    have hsg : ∀ x ∈ segN s.steps s.firsts u v, IsStep x ∧ x < 2 ^ 60 := fun x hx => W.st x (seg_mem x hx)
    have hfl := flat_len fun x hx => (hsg x hx).2
    have hsl := segl u v
    refine ⟨W.fmo u v huv (by (clear h2 h6 olen otot hn hst hpar pair0 segl tab wsum hwsum huv h3 hm hsg hfl hsl; omega)), W.fle v (by (clear h2 h6 olen otot hn hst hpar pair0 segl tab wsum hwsum huv h3 hm hsg hfl hsl; omega)), by (clear h2 h6 olen otot on2 on3 hn hst hpar pair0 segl tab wsum hwsum huv hv h3 hm hsg; omega), fun h => (flat_mem (fun x hx => (hsg x hx).1) 34 h).2 rfl, fun o ho => (flat_mem (fun x hx => (hsg x hx).1) o ho).1, esc_flat _ fun x hx => (hsg x hx).1, ?_, ?_, ?_, ?_, fun e he => ?_⟩
    · rw [hw]; exact j.chk fun x hx => (hsg x hx).1
    · rw [hw, j.far, List.map_append, List.sum_append]; rfl
    · have := line_len s.parents u; (clear otot hn hst hpar pair0 segl tab wsum hwsum h3 hm hsg hfl hsl; omega)
    · have := line_len s.parents v; (clear otot hn hst hpar pair0 segl tab wsum hwsum huv h3 hm hsg hfl hsl; omega)
    · rw [hw] at he
      rcases List.mem_append.mp he with q | q
      · have := line_mem s.parents u e (by rw [h1]; exact List.mem_append_left _ q); (clear h2 h6 olen otot hn hst hpar pair0 segl tab wsum hwsum h3 hm hsg hfl hsl; omega)
      · have := line_mem s.parents v e (by rw [h2']; exact List.mem_append_left _ q); (clear h2 h6 olen otot hn hst hpar pair0 segl tab wsum hwsum huv h3 hm hsg hfl hsl; omega)
  · have := flat_len fun x hx => (W.st x hx).2
    (clear h2 h6 hn hpar pair0 segl tab wsum hwsum; omega)
  · exact fun h => (flat_mem (fun x hx => (W.st x hx).1) 34 h).2 rfl
  · exact fun o ho => (flat_mem (fun x hx => (W.st x hx).1) o ho).1
  · exact esc_flat _ fun x hx => (W.st x hx).1
  · obtain ⟨a, b, c, h1, h2', h3, j⟩ := W.cur 0 (by (clear otot hn hst hpar pair0 segl tab wsum hwsum; omega))
    rw [W.f0, List.drop_zero] at j
    rw [line_zero] at h1 h2'
    have ha : a = [] := (List.append_eq_nil_iff.mp h1.symm).1
    have hb : b = [] := (List.append_eq_nil_iff.mp h2'.symm).1
    subst ha hb
    rw [j.chk fun x hx => (W.st x hx).1]; rfl
  · rw [tab i j hi hj]
    exact Nat.lt_of_le_of_lt (dist_bound T (by (clear otot hn hst hpar pair0 segl tab wsum hwsum hi hj; omega)) i j) (by decide)
  · have e1 : ((List.range s.parents.length).map fun v => tabN s.steps s.firsts i v * endI s.parents v).sum = SM s.parents.length (fun v => dist s.parents.length (wZ s.weights) (cN s.parents) i v * endI s.parents v) :=
      SM_congr fun v hv => by rw [tab i v hi hv]
    rw [e1, ← hwsum, hn]
    exact row_sum hn hpar W.w0 i
  · obtain ⟨d, hd⟩ : ∃ d, d + 3 = s.parents.length := ⟨s.parents.length - 3, by (clear otot hn hst hpar pair0 segl tab wsum hwsum; omega)⟩
    have ht := tail_eq s.weights (d + 2) (by (clear h2 h6 olen otot hn hst hpar pair0 segl tab wsum hwsum; omega))
    have e1 : s.weights.length - (d + 2) = 1 := by (clear h2 h6 olen otot hn hst hpar pair0 segl tab wsum hwsum ht; omega)
    rw [e1, wsum, ← on3] at ht
    have hsl := sum_le W.wl
    have hw := worth_tree T (by (clear otot hn hst hpar pair0 segl tab wsum hwsum ht e1 hsl; omega)) d hd (by rw [ht.2]; (clear otot hn hst hpar pair0 segl tab wsum e1; omega))
    rw [ht.1, ht.2] at hw
    have e2 : s.parents.length - 1 = d + 2 := by (clear otot hn hst hpar pair0 segl tab wsum hwsum ht e1 hsl; omega)
    have e3 : s.parents.length - 2 = d + 1 := by (clear otot hn hst hpar pair0 segl tab wsum hwsum ht e1 hsl; omega)
    rw [e2, e3]
    have e4 : (-1 : Int) ^ (d + 2) * 2 ^ (d + 1) * prodI (s.weights.drop 1) * ((s.weights.sum : Nat) : Int) = -((-2) ^ (d + 1) * prodI (s.weights.drop 1) * ((s.weights.sum : Nat) : Int)) := by
      rw [pow_neg_two, Int.pow_succ (-1) (d + 1)]
      generalize (-1 : Int) ^ (d + 1) = x
      generalize (2 : Int) ^ (d + 1) = y
      generalize prodI (s.weights.drop 1) = z
      generalize ((s.weights.sum : Nat) : Int) = t
      grind
    rw [e4]
    exact hw.congr fun i j hi hj => tab i j hi hj
end Mine

namespace Mine
/-- the text without the rows that name the modules -/
def view : Program := { PySem.Challenge.pw_we0004_01 with main := { PySem.Challenge.pw_we0004_01.main with body := PySem.Challenge.pw_we0004_01.main.body.filter fun st => match st with | .FunctionDef .. => true | _ => false } }
theorem recs_len : (recsOf PySem.Challenge.pw_we0004_01).length = 22 := by decide +kernel
theorem name21 : (rec 21).name = ("law" : Str) := by kernel_rfl
/-- what the head tells of the module, told as the base -/
theorem base_of_top {p : Program} {loose : List Str} {mean : ExcName → Option Value} {mg mb : Str → Option Value} {h : Heap} {f : Nat → Addr} (T : Top p loose mean mg mb h) (e1 : recsOf p = recsOf PySem.Challenge.pw_we0004_01)
    (e2 : ((loose ++ (litsOf p).map (·.1) ++ (clssOf p loose).map (·.name)).all fun x => startupNames.contains x) = true) (hf : ∀ k, f k = (match mg (rec k).name with | some (.ref a) => a | _ => 0)) : Base ⟨h, []⟩ mg mb f := by
  refine ⟨⟨T.g, T.b, T.nolimit, T.builtins⟩, fun k hk => ?_, fun x h1 h2 => ?_⟩
  · have hm : rec k ∈ recsOf p := by
      rw [e1]
      have : k < (recsOf PySem.Challenge.pw_we0004_01).length := by rw [recs_len]; exact hk
      unfold Mine.rec
      rw [List.getElem?_eq_getElem this]
      exact List.getElem_mem this
    obtain ⟨a, o, pm, code, doc, c1, c2, c3, c4⟩ := T.fn _ hm
    have ea : f k = a := by rw [hf, c1]
    rw [ea]
    exact ⟨o, pm, code, doc, c1, c2, c3, c4⟩
  · have hv := List.all_eq_true.mp e2
    have hn : ∀ y ∈ loose ++ (litsOf p).map (·.1) ++ (clssOf p loose).map (·.name), y ≠ x := fun y hy e => by
      have := hv y hy
      rw [List.contains_iff_mem] at this
      exact h1 (e ▸ this)
    refine T.free x h1 (fun h => hn x ?_ rfl) (by rw [e1]; exact h2) (fun h => hn x ?_ rfl) (fun h => hn x ?_ rfl)
    · exact List.mem_append_left _ (List.mem_append_left _ h)
    · exact List.mem_append_left _ (List.mem_append_right _ h)
    · exact List.mem_append_right _ h
/-- the law's call from the caller's place -/
theorem law_call {w : World} {s : Shared} {mg mb : Str → Option Value} {f : Nat → Addr} (B : Base ⟨s.heap, []⟩ mg mb f) {l : Addr} {vs : List Value} {ns : List Int} (hL : s.heap.IsList l vs.toArray) (hI : IntsAre vs ns) (hlen : ns.length ≤ 63) :
    codeAny (model PySem.Challenge.pw_we0004_01 w) callerA (.call (.ref (f 21)) ⟨[.ref l], []⟩) (fun r s' => ∃ v, r = .ok (.ret v) ∧ Post ⟨s.heap, []⟩ noH ⟨fun _ => 0, 0⟩ s (fun cv _ => cv = .b true) v s') s := by
  have hR : Room ⟨s.heap, []⟩ 4 callerA := ⟨rfl, by decide +kernel, by decide +kernel, [], rfl, by simp⟩
  have hF := lawful (ns.take 4 ++ [63, 25]) (by rw [List.length_append]; exact Nat.le_add_left _ _) (by rw [List.length_append, List.length_take]; show min 4 ns.length + 2 ≤ 6; omega)
  exact enter_one (d := rec 21) (k := 3) (x := "script") (l := l) (P := fun cv _ => cv = .b true) B.toGl (B.fn 21 (by decide)) rfl hR (fun b o e => e)
    (fun A code fr hR' => law_spec B hL hI (by omega) hF (fun _ => rfl) A code fr hR') (fun _ _ _ _ => rfl) (by rfl)
end Mine

set_option maxRecDepth 100000 in
set_option maxHeartbeats 8000000 in
theorem PySem.Challenge.cw_we0004_01_holds : PySem.Challenge.rw_we0004_01.Holds := by
  w_on
  o_law
  refine PySem.W.holds_open (q := Mine.view) (loose := []) (Xt := fun s => xlAt Mine.view [] s && recOk (RowW.records (OpenRow.toRowW PySem.Challenge.rw_we0004_01.row)) s) (XP := XL Mine.view [])
    (Yf := Hook.obs Hook.none) (Ya := Hook.val Hook.none) (YP := Hook.says Hook.none) (N := 1538) ?hl (Hook.of Hook.none) (Hook.keeps Hook.none) (fun s e => xl_of s (Bool.and_eq_true_iff.mp e).1) XL.keeps
    (by rfl) (by rfl) (by rfl) (fun s e => recFacts_of (Bool.and_eq_true_iff.mp e).2) (by rfl) (by first | assumption | decide +kernel) (by decide +kernel) ⟨rfl, rfl, rfl, rfl, rfl, by decide +kernel⟩ ?hw ?hc
  (case hl => intro w; kernel_rfl)
  (case hw => w_witness2)
  intro w s₀ s₁ mg mb G Y fa o pm cd doc dV kV ho hd hcd hD hmg hg args vals as hpre hlay hrd hwl hlo
  refine Ground.open G ?_
  intro T B D TE TW
  (try (refine guard_noD D (by decide +kernel) ?_; clear D))
  wrow_args hpre hlay hrd hwl hlo
  clear hd hcd hD TE TW B
  first | refine callC_kw (enter_call ?_) | refine enter_call ?_
  rename_i ns z1 z2 z3 z4 z5 a1 a2 l vs as hL ra w1 r0 hI hr hc1 hc2
  have hlen : ns.length ≤ 63 := by omega
  obtain ⟨f, hf⟩ : ∃ f : Nat → Addr, ∀ k, f k = (match mg (Mine.rec k).name with | some (.ref a) => a | _ => 0) := ⟨_, fun _ => rfl⟩
  have Bs : Mine.Base ⟨s₁.heap, []⟩ mg mb f := Mine.base_of_top T (by kernel_rfl) (by decide +kernel) hf
  have hfa : fa = f 21 := by
    rw [hf, Mine.name21]
    have e : mg ("law" : Str) = some (.ref fa) := hmg
    rw [e]
  rw [hfa]
  refine codeAny_mono (Mine.law_call Bs hL hI hlen) (fun r s' ⟨v, e, cv, H', τ', hv, C', S', hp⟩ => ?_)
  subst e hp
  rw [Mine.is_b hv]
  refine ⟨.inl ⟨.bool true, .bool true, [], rfl, ?_, .bool true, ?_, fun _ => ⟨List.nodup_nil, by simp⟩⟩, .of_keep C'.base, S'.os, S'.bare ?_⟩
  · refine raisesW_false ?_
    wrow_none_raised
  · wrow_post
  · exact .of_eq hg
