import PyProof.Rows.All
import Wide.All
import OpenK.AllK
import Wide.FinOn
import PySem.Challenge.RW_sc0057_02
open PySem PySem.W PyProof.Rows PySem.Calls
set_option Elab.async false
set_option linter.unusedVariables false
set_option maxRecDepth 100000
set_option maxHeartbeats 8000000
namespace Mine
/-- the value without its token -/
def er : Value → Value
  | .int i _ => .int i 0
  | .float b _ => .float b 0
  | .str s _ => .str s 0
  | .bytes b _ => .bytes b 0
  | v => v
abbrev I (i : Int) : Value := .int i 0
abbrev S (s : Str) : Value := .str s 0
abbrev Y (b : Array UInt8) : Value := .bytes b 0
theorem er_int {v : Value} {i : Int} (h : er v = I i) : ∃ t, v = .int i t := by
  cases v <;> simp [er] at h; exact ⟨_, by rw [h]⟩
theorem er_str {v : Value} {x : Str} (h : er v = S x) : ∃ t, v = .str x t := by
  cases v <;> simp [er] at h; exact ⟨_, by rw [h]⟩
theorem er_bytes {v : Value} {x : Array UInt8} (h : er v = Y x) : ∃ t, v = .bytes x t := by
  cases v <;> simp [er] at h; exact ⟨_, by rw [h]⟩
theorem er_ref {v : Value} {a : Addr} (h : er v = .ref a) : v = .ref a := by
  cases v <;> simp [er] at h; rw [h]
theorem er_bool {v : Value} {a : Bool} (h : er v = .bool a) : v = .bool a := by
  cases v <;> simp [er] at h; rw [h]
theorem er_none {v : Value} (h : er v = .none) : v = .none := by
  cases v <;> simp [er] at h; rfl
theorem er_builtin {v : Value} {a : String} (h : er v = .builtin a) : v = .builtin a := by
  cases v <;> simp [er] at h; rw [h]
theorem er_type {v : Value} {a : String} (h : er v = .type a) : v = .type a := by
  cases v <;> simp [er] at h; rw [h]
/-- an object of the ledger, told up to tokens -/
inductive PO
  | list (vs : List Value)
  | tup (vs : List Value)
  | inst (C dx : Addr)
  | dict (fs : List (Str × Value))
  | cell (v : Option Value)
  | raw (o : Obj)

def KeysAre (P : Params) : List DictEntry → List (Str × Value) → Prop
  | [], [] => True
  | e :: r, (x, v) :: fs => (∃ t, e.key = .str x t ∧ e.hash = PyData.keyHash P x) ∧ er e.val = v ∧ KeysAre P r fs
  | _, _ => False

def PO.is (P : Params) : PO → Obj → Prop
  | .list vs, o => ∃ xs n, o = { cls := .type "list", data := .seq xs n } ∧ xs.toList.map er = vs
  | .tup vs, o => ∃ xs n, o = { cls := .type "tuple", data := .seq xs n } ∧ xs.toList.map er = vs
  | .inst C dx, o => o = instObj C dx
  | .dict fs, o => ∃ es n, o = dictOf es n ∧ KeysAre P es fs
  | .cell v, o => ∃ u, o.data = .cell u ∧ u.map er = v ∧ o.isFreed = false
  | .raw o, o' => o' = o

structure Cx where
  prog : Program
  w : World
  K : Frag
abbrev Cx.M (C : Cx) : Model := model C.prog C.w

/-- what stands at the top -/
structure Gd (C : Cx) (h : Heap) : Prop where
  X : C.K.In h
  T : ∃ p loose mg mb, TopRead p loose mg mb h
  B : ∃ mg bm ob, h.Ns mainGlobals mg ∧ mg "__builtins__" = some (.ref bm) ∧ bm ≠ builtinsNs ∧ h.get? bm = some ob ∧ ob.cls = .type "module" ∧ ob.dict = some builtinsNs ∧ ob.data = .plain
theorem Gd.keeps {C : Cx} {h h' : Heap} (g : Gd C h) (k : ∀ b o, h.get? b = some o → h'.get? b = some o) : Gd C h' :=
  ⟨g.X.keeps k, let ⟨p, l, mg, mb, t⟩ := g.T; ⟨p, l, mg, mb, t.keeps k⟩, let ⟨mg, bm, ob, a, b, c, d, e⟩ := g.B; ⟨mg, bm, ob, a.keeps k, b, c, k _ _ d, e⟩⟩
theorem Gd.nolimit {C : Cx} {h : Heap} (g : Gd C h) : h.NoLimit := let ⟨_, _, _, _, t⟩ := g.T; t.nolimit

/-- the call's room: depth, C stack, nothing handled -/
structure Rm (n : Nat) (A : Around) : Prop where
  d : A.depth + n < recursionLimit
  u : A.units + 20 * n < cLine
  hh : A.handled = none
theorem Rm.deeper {n : Nat} {A : Around} {env : Env} (r : Rm (n + 1) A) : Rm n (A.deeper env) :=
  ⟨by have := r.d; show A.depth + 1 + n < _; omega, by have := r.u; show A.units + 3 + 20 * n < _; omega, r.hh⟩
theorem Rm.in1 {n : Nat} {A : Around} (r : Rm (n + 1) A) : Rm n A.in1 :=
  ⟨by have := r.d; show A.depth + n < _; omega, by have := r.u; show A.units + 1 + 20 * n < _; omega, r.hh⟩
theorem Rm.room {n : Nat} {A : Around} (r : Rm n A) : A.depth < recursionLimit := by have := r.d; omega
abbrev LS := List (Str × Value)
abbrev NS := List (Addr × PO)

/-- the state of a frame: what lies in h₀ stays; the locals that we know; the ledger of what was made or may change -/
structure St (C : Cx) (h₀ : Heap) (L : Addr) (ls : LS) (ns : NS) (h : Heap) : Prop where
  fr : ∃ m, h.Ns L m ∧ ∀ x v, ls.lookup x = some v → ∃ u, m x = some u ∧ er u = v
  keep : ∀ b o, h₀.get? b = some o → h.get? b = some o
  nL : h₀.get? L = none
  nw : ∀ p ∈ ns, p.1 ≠ L ∧ h₀.get? p.1 = none ∧ ∃ o, h.get? p.1 = some o ∧ p.2.is C.w.params o
  nd : (ns.map (·.1)).Nodup

def Later (s s' : Shared) : Prop := ∃ h tk, s' = { s with heap := h, toks := tk }
theorem Later.refl (s : Shared) : Later s s := ⟨s.heap, s.toks, rfl⟩
theorem Later.of {s : Shared} (h : Heap) (tk : Nat) : Later s { s with heap := h, toks := tk } := ⟨h, tk, rfl⟩
theorem Later.trans {a b c : Shared} (x : Later a b) (y : Later b c) : Later a c := by
  obtain ⟨h, t, rfl⟩ := x; obtain ⟨h', t', rfl⟩ := y; exact ⟨h', t', rfl⟩

def Post {α : Type} (C : Cx) (h₀ : Heap) (L : Addr) (s : Shared) (Q : α → LS → NS → Prop) (a : α) (s' : Shared) : Prop :=
  ∃ ls' ns', St C h₀ L ls' ns' s'.heap ∧ Later s s' ∧ Q a ls' ns'
abbrev Bot : Value → Shared → Prop := fun _ _ => False

/-- the triple -/
def T {α : Type} (C : Cx) (n : Nat) (L : Addr) (ls : LS) (ns : NS) (t : Sem α) (Q : α → LS → NS → Prop) : Prop :=
  ∀ (A : Around) (h₀ : Heap) (s : Shared), Rm n A → Gd C h₀ → St C h₀ L ls ns s.heap → wpAny C.M A t (Post C h₀ L s Q) Bot s

section
variable {α β : Type} {C : Cx} {n : Nat} {L : Addr} {ls : LS} {ns : NS}

theorem T.mono {t : Sem α} {Q Q' : α → LS → NS → Prop} (h : T C n L ls ns t Q) (hQ : ∀ a l n, Q a l n → Q' a l n) : T C n L ls ns t Q' :=
  fun A h₀ s R G S => wpAny_mono (h A h₀ s R G S) (fun _ _ ⟨l, n, S', k, q⟩ => ⟨l, n, S', k, hQ _ _ _ q⟩) fun _ _ e => e
theorem T.run {t : Sem α} {Q : α → LS → NS → Prop} (h : T C n L ls ns t Q) {A : Around} {h₀ : Heap} {s : Shared} {Q' : α → Shared → Prop} (R : Rm n A) (G : Gd C h₀) (S : St C h₀ L ls ns s.heap)
    (hQ : ∀ a s' ls' ns', St C h₀ L ls' ns' s'.heap → Later s s' → Q a ls' ns' → Q' a s') : wpAny C.M A t Q' Bot s :=
  wpAny_mono (h A h₀ s R G S) (fun _ _ ⟨_, _, S', k, q⟩ => hQ _ _ _ _ S' k q) fun _ _ e => e
theorem T.next {t : Sem α} {Q : α → LS → NS → Prop} (h : T C n L ls ns t Q) {A : Around} {h₀ : Heap} {s s₀ : Shared} (R : Rm n A) (G : Gd C h₀) (S : St C h₀ L ls ns s.heap) (k : Later s₀ s) :
    wpAny C.M A t (Post C h₀ L s₀ Q) Bot s := h.run R G S fun _ _ _ _ S' k' q => ⟨_, _, S', k.trans k', q⟩
end

section
variable {C : Cx} {h₀ h h' : Heap} {L a : Addr} {ls ls' : LS} {ns ns' : NS} {o o' : PO}
theorem St.get (S : St C h₀ L ls ns h) (hm : (a, o) ∈ ns) : ∃ x, h.get? a = some x ∧ o.is C.w.params x := (S.nw _ hm).2.2
theorem St.gd (S : St C h₀ L ls ns h) (g : Gd C h₀) : Gd C h := g.keeps S.keep
theorem St.ext (S : St C h₀ L ls ns h) (k : ∀ b o, h.get? b = some o → h'.get? b = some o) : St C h₀ L ls ns h' := by
  obtain ⟨m, F, hl⟩ := S.fr
  exact ⟨⟨m, F.keeps k, hl⟩, fun b o e => k b o (S.keep b o e), S.nL, fun p hp => let ⟨x, y, o, e, z⟩ := S.nw p hp; ⟨x, y, o, k _ _ e, z⟩, S.nd⟩
theorem St.loc (S : St C h₀ L ls ns h) (hs : ∀ p ∈ ls', ls.lookup p.1 = some p.2) : St C h₀ L ls' ns h := by
  obtain ⟨m, F, hl⟩ := S.fr
  refine ⟨⟨m, F, fun x v e => hl x v ?_⟩, S.keep, S.nL, S.nw, S.nd⟩
  have : (x, v) ∈ ls' := by
    clear hs
    induction ls' with
    | nil => cases e
    | cons p r ih =>
      obtain ⟨y, u⟩ := p
      rw [List.lookup_cons] at e
      by_cases hy : x == y
      · simp only [hy] at e; cases e; rw [beq_iff_eq.mp hy]; exact .head _
      · simp only [hy] at e; exact .tail _ (ih e)
  exact hs _ this
theorem St.sub (S : St C h₀ L ls ns h) (hs : ns'.Sublist ns) : St C h₀ L ls ns' h :=
  ⟨S.fr, S.keep, S.nL, fun p hp => S.nw p (hs.subset hp), (hs.map _).nodup S.nd⟩
theorem St.perm (S : St C h₀ L ls ns h) (hs : ns'.Perm ns) : St C h₀ L ls ns' h :=
  ⟨S.fr, S.keep, S.nL, fun p hp => S.nw p (hs.subset hp), ((hs.map _).nodup_iff).mpr S.nd⟩
theorem St.ltL (S : St C h₀ L ls ns h) : L < h.objs.size := by obtain ⟨m, F, _⟩ := S.fr; exact F.lt
theorem none_of_size {h : Heap} {a : Addr} (ha : h.objs.size ≤ a) : h.get? a = none := by
  cases e : h.get? a with
  | none => rfl
  | some o => exact absurd (Heap.lt_size e) (Nat.not_lt.mpr ha)
/-- a new object -/
theorem St.add (S : St C h₀ L ls ns h) {x : Obj} (k : ∀ b o, h.get? b = some o → h'.get? b = some o) (ha : h.get? a = none) (hx : h'.get? a = some x) (ho : o.is C.w.params x) : St C h₀ L ls ((a, o) :: ns) h' := by
  have S' := S.ext k
  refine ⟨S'.fr, S'.keep, S'.nL, fun p hp => ?_, ?_⟩
  · rcases List.mem_cons.mp hp with rfl | hp
    · refine ⟨fun e => ?_, ?_, x, hx, ho⟩
      · obtain ⟨m, ⟨oL, _, _, F, _⟩, _⟩ := S.fr
        rw [show L = a from e.symm, ha] at F; cases F
      · cases e : h₀.get? a with
        | none => rfl
        | some y => have := S.keep _ _ e; rw [ha] at this; cases this
    · exact S'.nw p hp
  · rw [List.map_cons, List.nodup_cons]
    refine ⟨fun hm => ?_, S.nd⟩
    obtain ⟨p, hp, e⟩ := List.mem_map.mp hm
    obtain ⟨_, _, y, hy, _⟩ := S.nw p hp
    rw [show p.1 = a from e, ha] at hy; cases hy
theorem St.alloc (S : St C h₀ L ls ns h) {x : Obj} (ho : o.is C.w.params x) (hf : x.isFreed = false := by rfl) : St C h₀ L ls ((h.objs.size, o) :: ns) (h.push x) :=
  S.add (fun _ _ e => Heap.get?_push_of_some _ e) (none_of_size (Nat.le_refl _)) (Heap.get?_push_size _ hf) ho
theorem St.store (S : St C h₀ L ls ns h) {x : Str} {v : Value} (hn : ∀ m, h.Ns L m → h'.Ns L (fun y => if y = x then some v else m y)) (hs : Heap.SameBut L h h') : St C h₀ L ((x, er v) :: ls) ns h' := by
  obtain ⟨m, F, hl⟩ := S.fr
  refine ⟨⟨_, hn m F, fun y u e => ?_⟩, fun b o e => (hs.2 b fun q => ?_).trans (S.keep b o e), S.nL, fun p hp => ?_, S.nd⟩
  · rw [List.lookup_cons] at e
    by_cases hy : y = x
    · subst hy; simp at e; exact ⟨v, by simp, e⟩
    · have : (y == x) = false := by simpa using hy
      simp only [this] at e
      simp only [hy, if_false]
      exact hl y u e
  · rw [q, S.nL] at e; cases e
  · obtain ⟨a, b, o, e, z⟩ := S.nw p hp
    exact ⟨a, b, o, (hs.2 _ a).trans e, z⟩

/-- one entry of the ledger anew -/
inductive Put (a : Addr) (o o' : PO) : NS → NS → Prop
  | hd {r} : Put a o o' ((a, o) :: r) ((a, o') :: r)
  | tl {p r r'} : Put a o o' r r' → Put a o o' (p :: r) (p :: r')
theorem Put.addrs (u : Put a o o' ns ns') : ns'.map (·.1) = ns.map (·.1) := by
  induction u with
  | hd => rfl
  | tl _ ih => simp [ih]
theorem Put.mem (u : Put a o o' ns ns') : (a, o) ∈ ns := by
  induction u with
  | hd => exact .head _
  | tl _ ih => exact .tail _ ih
theorem Put.cases {p : Addr × PO} (u : Put a o o' ns ns') (nd : (ns.map (·.1)).Nodup) (hp : p ∈ ns') : p = (a, o') ∨ (p ∈ ns ∧ p.1 ≠ a) := by
  induction u with
  | hd =>
    rename_i r
    rw [List.map_cons, List.nodup_cons] at nd
    rcases List.mem_cons.mp hp with e | e
    · exact .inl e
    · exact .inr ⟨.tail _ e, fun q => nd.1 (List.mem_map.mpr ⟨p, e, q⟩)⟩
  | tl u' ih =>
    rename_i q r r'
    rw [List.map_cons, List.nodup_cons] at nd
    rcases List.mem_cons.mp hp with e | e
    · subst e
      exact .inr ⟨.head _, fun q => nd.1 (q ▸ List.mem_map.mpr ⟨_, u'.mem, rfl⟩)⟩
    · rcases ih nd.2 e with z | z
      · exact .inl z
      · exact .inr ⟨.tail _ z.1, z.2⟩
theorem St.put (S : St C h₀ L ls ns h) (u : Put a o o' ns ns') (k : ∀ b x, b ≠ a → h.get? b = some x → h'.get? b = some x) {x : Obj} (ha : h'.get? a = some x) (hx : o'.is C.w.params x) : St C h₀ L ls ns' h' := by
  obtain ⟨m, F, hl⟩ := S.fr
  obtain ⟨n1, n2, _⟩ := S.nw _ u.mem
  refine ⟨⟨m, F.at' fun o e => k _ o (Ne.symm n1) e, hl⟩, fun b o e => k b o (fun q => ?_) (S.keep b o e), S.nL, fun p hp => ?_, u.addrs ▸ S.nd⟩
  · rw [q, n2] at e; cases e
  · rcases u.cases S.nd hp with rfl | ⟨z, ne⟩
    · exact ⟨n1, n2, x, ha, hx⟩
    · obtain ⟨a, b, o, e, w⟩ := S.nw p z
      exact ⟨a, b, o, k _ _ ne e, w⟩
end
structure FnEnv (env : Env) : Prop where
  k : env.scope.kind = .function
  g : env.globals = mainGlobals
  b : env.builtins = builtinsNs

def Vl (C : Cx) (n : Nat) (L : Addr) (ls : LS) (ns : NS) (t : Sem Value) (Q : Value → NS → Prop) : Prop := T C n L ls ns t fun v l m => l = ls ∧ Q (er v) m
abbrev Ev (C : Cx) (n : Nat) (env : Env) (ls : LS) (ns : NS) (e : Expr) (Q : Value → NS → Prop) : Prop := Vl C n env.locals ls ns (eval e env) Q
/-- an operation on two values, told up to tokens -/
def Op2 (C : Cx) (n : Nat) (L : Addr) (ls : LS) (ns : NS) (f : Value → Value → Sem Value) (a b : Value) (Q : Value → NS → Prop) : Prop :=
  ∀ a' b', er a' = a → er b' = b → Vl C n L ls ns (f a' b') Q
def Op1 (C : Cx) (n : Nat) (L : Addr) (ls : LS) (ns : NS) (f : Value → Sem Value) (a : Value) (Q : Value → NS → Prop) : Prop :=
  ∀ a', er a' = a → Vl C n L ls ns (f a') Q
abbrev Bin (C : Cx) (n : Nat) (L : Addr) (ls : LS) (ns : NS) (op : Operator) := Op2 C n L ls ns (binaryOp op)
abbrev Ip (C : Cx) (n : Nat) (L : Addr) (ls : LS) (ns : NS) (op : Operator) := Op2 C n L ls ns (inplaceOp op)
abbrev Cmp (C : Cx) (n : Nat) (L : Addr) (ls : LS) (ns : NS) (op : CmpOp) := Op2 C n L ls ns (compareOp op)
/-- a truth -/
def Bl (C : Cx) (n : Nat) (L : Addr) (ls : LS) (ns : NS) (t : Sem Bool) (Q : Bool → NS → Prop) : Prop := T C n L ls ns t fun v l m => l = ls ∧ Q v m
abbrev Tt (C : Cx) (n : Nat) (env : Env) (ls : LS) (ns : NS) (e : Expr) (Q : Bool → NS → Prop) : Prop := Bl C n env.locals ls ns (isTrue e env (eval e env)) Q
def Tr (C : Cx) (n : Nat) (L : Addr) (ls : LS) (ns : NS) (a : Value) (Q : Bool → NS → Prop) : Prop := ∀ a', er a' = a → Bl C n L ls ns (truthy a') Q
def erF : Flow → Flow
  | .ret v => .ret (er v)
  | f => f
def Ex (C : Cx) (n : Nat) (env : Env) (ls : LS) (ns : NS) (b : List Stmt) (Q : Flow → LS → NS → Prop) : Prop := T C n env.locals ls ns (execs b env) fun f l m => Q (erF f) l m
def Ex1 (C : Cx) (n : Nat) (env : Env) (ls : LS) (ns : NS) (b : Stmt) (Q : Flow → LS → NS → Prop) : Prop := T C n env.locals ls ns (exec b env) fun f l m => Q (erF f) l m
/-- an effect without a value -/
def Un (C : Cx) (n : Nat) (L : Addr) (ls : LS) (ns : NS) (t : Sem Unit) (Q : LS → NS → Prop) : Prop := T C n L ls ns t fun _ l m => Q l m
/-- a store of a value -/
def As (C : Cx) (n : Nat) (env : Env) (ls : LS) (ns : NS) (e : Expr) (v : Value) (Q : LS → NS → Prop) : Prop := ∀ v', er v' = v → Un C n env.locals ls ns (assign e env v') Q

theorem ns_uniq {h : Heap} {a : Addr} {m m' : Str → Option Value} (x : h.Ns a m) (y : h.Ns a m') : m = m' := by
  obtain ⟨o, es, ep, ho, hd, _, hf⟩ := x
  obtain ⟨o', es', ep', ho', hd', _, hf'⟩ := y
  rw [ho] at ho'; cases ho'
  rw [hd] at hd'; cases hd'
  funext x; rw [← hf, ← hf']
section
variable {C : Cx} {n : Nat} {L : Addr} {ls : LS} {ns : NS} {env : Env}
theorem Bl.mono {t : Sem Bool} {Q Q' : Bool → NS → Prop} (h : Bl C n L ls ns t Q) (k : ∀ v m, Q v m → Q' v m) : Bl C n L ls ns t Q' := T.mono h fun _ _ _ x => ⟨x.1, k _ _ x.2⟩
theorem Vl.run {t : Sem Value} {Q : Value → NS → Prop} (h : Vl C n L ls ns t Q) {A : Around} {h₀ : Heap} {s : Shared} {Q' : Value → Shared → Prop} (R : Rm n A) (G : Gd C h₀) (S : St C h₀ L ls ns s.heap)
    (hQ : ∀ a s' ns', St C h₀ L ls ns' s'.heap → Later s s' → Q (er a) ns' → Q' a s') : wpAny C.M A t Q' Bot s :=
  T.run h R G S fun _ _ _ _ S' k q => by obtain ⟨rfl, q⟩ := q; exact hQ _ _ _ S' k q
theorem Vl.next {t : Sem Value} {Q : Value → NS → Prop} (h : Vl C n L ls ns t Q) {A : Around} {h₀ : Heap} {s s₀ : Shared} (R : Rm n A) (G : Gd C h₀) (S : St C h₀ L ls ns s.heap) (k : Later s₀ s) :
    wpAny C.M A t (Post C h₀ L s₀ fun v l m => l = ls ∧ Q (er v) m) Bot s := T.next h R G S k
theorem Bl.run {t : Sem Bool} {Q : Bool → NS → Prop} (h : Bl C n L ls ns t Q) {A : Around} {h₀ : Heap} {s : Shared} {Q' : Bool → Shared → Prop} (R : Rm n A) (G : Gd C h₀) (S : St C h₀ L ls ns s.heap)
    (hQ : ∀ a s' ns', St C h₀ L ls ns' s'.heap → Later s s' → Q a ns' → Q' a s') : wpAny C.M A t Q' Bot s :=
  T.run h R G S fun _ _ _ _ S' k q => by obtain ⟨rfl, q⟩ := q; exact hQ _ _ _ S' k q
theorem Bl.next {t : Sem Bool} {Q : Bool → NS → Prop} (h : Bl C n L ls ns t Q) {A : Around} {h₀ : Heap} {s s₀ : Shared} (R : Rm n A) (G : Gd C h₀) (S : St C h₀ L ls ns s.heap) (k : Later s₀ s) :
    wpAny C.M A t (Post C h₀ L s₀ fun v l m => l = ls ∧ Q v m) Bot s := T.next h R G S k
theorem Post.v {h₀ : Heap} {s s' : Shared} {Q : Value → NS → Prop} {v : Value} {ns' : NS} (S : St C h₀ L ls ns' s'.heap) (k : Later s s') (q : Q (er v) ns') :
    Post C h₀ L s (fun v l m => l = ls ∧ Q (er v) m) v s' := ⟨ls, ns', S, k, rfl, q⟩
theorem Post.b {h₀ : Heap} {s s' : Shared} {Q : Bool → NS → Prop} {v : Bool} {ns' : NS} (S : St C h₀ L ls ns' s'.heap) (k : Later s s') (q : Q v ns') :
    Post C h₀ L s (fun v l m => l = ls ∧ Q v m) v s' := ⟨ls, ns', S, k, rfl, q⟩

/-! expressions -/
section
variable {Q : Value → NS → Prop} {pos : Pos}
theorem ev_loc {x : Str} {v : Value} (he : FnEnv env) (hx : env.kindOf x = some .local) (hd : (x == ("__debug__" : Str)) = false) (hv : ls.lookup x = some v) (h : Q v ns) : Ev C n env ls ns (.Name x pos) Q :=
  fun A h₀ s R G S => by
    obtain ⟨m, F, hl⟩ := S.fr
    obtain ⟨u, hu, e⟩ := hl x v hv
    exact wpAny_Name (wpAny_loadName_local he.k hx F hu (.v S (.refl s) (e ▸ h))) hd
theorem ev_glob {x : Str} {v : Value} (he : FnEnv env) (hx : env.kindOf x = some .globalImplicit) (hd : (x == ("__debug__" : Str)) = false) (hv : nsIn C.K mainGlobals x = some (some v)) (h : Q (er v) ns) : Ev C n env ls ns (.Name x pos) Q :=
  fun A h₀ s R G S => by
    obtain ⟨p, l, mg, mb, t⟩ := (S.gd G).T
    exact Name_function_global he.k hx (loadGlobal_global (he.g ▸ t.g) (mg_of (S.gd G).X t.g hv) (.v S (.refl s) h)) hd
theorem ev_blt {x : Str} {v : Value} (he : FnEnv env) (hx : env.kindOf x = some .globalImplicit) (hd : (x == ("__debug__" : Str)) = false) (hn : (x == ("__name__" : Str)) = false) (hv : nsIn C.K mainGlobals x = some none)
    (hb : bootBuiltins x = some v) (h : Q (er v) ns) : Ev C n env ls ns (.Name x pos) Q :=
  fun A h₀ s R G S => by
    obtain ⟨p, l, mg, mb, t⟩ := (S.gd G).T
    exact Name_function_global he.k hx (loadGlobal_builtin (he.g ▸ t.g) (mg_none_of (S.gd G).X t.g hv) (he.b ▸ t.b) ((t.builtins x (by simpa using hn)).trans hb) (.v S (.refl s) h)) hd
theorem ev_int {i : Int} {k : Nat} (h : Q (I i) ns) : Ev C n env ls ns (.Constant (.int i) k pos) Q :=
  fun A h₀ s R G S => wpAny_Constant_int (.v S (.of _ _) h)
theorem ev_str {x : Str} {k : Nat} (h : Q (Mine.S x) ns) : Ev C n env ls ns (.Constant (.str x) k pos) Q :=
  fun A h₀ s R G S => Constant_str (.v S (.of _ _) h)
theorem ev_bytes {x : List UInt8} {k : Nat} (h : Q (Y x.toArray) ns) : Ev C n env ls ns (.Constant (.bytes x) k pos) Q :=
  fun A h₀ s R G S => Constant_bytes (.v S (.of _ _) h)
theorem ev_bool {x : Bool} {k : Nat} (h : Q (.bool x) ns) : Ev C n env ls ns (.Constant (.bool x) k pos) Q :=
  fun A h₀ s R G S => Constant_bool (.v S (.refl _) h)
theorem ev_none {k : Nat} (h : Q .none ns) : Ev C n env ls ns (.Constant .none k pos) Q :=
  fun A h₀ s R G S => Constant_none (.v S (.refl _) h)
theorem ev_bin {l r : Expr} {op : Operator} (h : Ev C n env ls ns l fun a m => Ev C n env ls m r fun b m' => Bin C n env.locals ls m' op a b Q) : Ev C n env ls ns (.BinOp l op r pos) Q :=
  fun A h₀ s R G S => wpAny_BinOp (h.run R G S fun a s1 m S1 k1 q => q.run R G S1 fun b s2 m2 S2 k2 q2 => (q2 a b rfl rfl).next R G S2 (k1.trans k2))
theorem ev_cmp {l r : Expr} {op : CmpOp} (h : Ev C n env ls ns l fun a m => Ev C n env ls m r fun b m' => Cmp C n env.locals ls m' op a b Q)
    (hm : behindInMarks op r = false := by with_unfolding_all rfl) : Ev C n env ls ns (.Compare l [op] [r] pos) Q :=
  fun A h₀ s R G S => wpAny_Compare1 (h.run R G S fun a s1 m S1 k1 q => q.run R G S1 fun b s2 m2 S2 k2 q2 => (q2 a b rfl rfl).next R G S2 (k1.trans k2)) hm
theorem ev_un {x : Expr} {op : UnaryOp} (h : Ev C n env ls ns x fun a m => Op1 C n env.locals ls m (unaryOp op) a Q) : Ev C n env ls ns (.UnaryOp op x pos) Q :=
  fun A h₀ s R G S => UnaryOp_ (h.run R G S fun a s1 m S1 k1 q => (q a rfl).next R G S1 k1)
theorem ev_ifx {t a b : Expr} (h : Tt C n env ls ns t fun c m => if c = true then Ev C n env ls m a Q else Ev C n env ls m b Q) : Ev C n env ls ns (.IfExp t a b pos) Q :=
  fun A h₀ s R G S => IfExp_ (h.run R G S fun c s1 m S1 k1 q => by cases c <;> exact Vl.next q R G S1 k1)
end

/-! truths -/
section
variable {Q : Bool → NS → Prop} {pos : Pos}
theorem tt_cmp {l r : Expr} {op : CmpOp} (h : Ev C n env ls ns l fun a m => Ev C n env ls m r fun b m' => Cmp C n env.locals ls m' op a b fun v m2 => Tr C n env.locals ls m2 v Q)
    (hm : behindInMarks op r = false := by with_unfolding_all rfl) : Tt C n env ls ns (.Compare l [op] [r] pos) Q :=
  fun A h₀ s R G S => wpAny_isTrue_Compare1 (h.run R G S fun a s1 m S1 k1 q => q.run R G S1 fun b s2 m2 S2 k2 q2 => (q2 a b rfl rfl).run R G S2 fun v s3 m3 S3 k3 q3 => (q3 v rfl).next R G S3 (k1.trans (k2.trans k3))) hm
theorem tt_not {x : Expr} (h : Tt C n env ls ns x fun c m => Q (!c) m) : Tt C n env ls ns (.UnaryOp .Not x pos) Q :=
  fun A h₀ s R G S => isTrue_not (h.run R G S fun c s1 m S1 k1 q => .b S1 k1 q)
theorem tt_and {x y : Expr} (h : Tt C n env ls ns x fun c m => if c = true then Tt C n env ls m y Q else Q false m) : Tt C n env ls ns (.BoolOp .And [x, y] pos) Q :=
  fun A h₀ s R G S => isTrue_and (h.run R G S fun c s1 m S1 k1 q => by
    cases c
    · exact .b S1 k1 q
    · exact isTrue_and (Bl.run q R G S1 fun c s2 m2 S2 k2 q2 => by cases c <;> first | exact .b S2 (k1.trans k2) q2 | exact isTrue_and_nil (.b S2 (k1.trans k2) q2)))
theorem tt_or {x y : Expr} (h : Tt C n env ls ns x fun c m => if c = true then Q true m else Tt C n env ls m y Q) : Tt C n env ls ns (.BoolOp .Or [x, y] pos) Q :=
  fun A h₀ s R G S => isTrue_or (h.run R G S fun c s1 m S1 k1 q => by
    cases c
    · exact isTrue_or (Bl.run q R G S1 fun c s2 m2 S2 k2 q2 => by cases c <;> first | exact .b S2 (k1.trans k2) q2 | exact isTrue_or_nil (.b S2 (k1.trans k2) q2))
    · exact .b S1 k1 q)
theorem tt_val {e : Expr} (h : Ev C n env ls ns e fun v m => Tr C n env.locals ls m v Q) (he : isTrue e env (eval e env) = (do let v ← eval e env; standAt e.pos; holding [v] (truthy v)) := by rfl) : Tt C n env ls ns e Q :=
  fun A h₀ s R G S => isTrue_plain (h.run R G S fun a s1 m S1 k1 q => (q a rfl).next R G S1 k1) he
theorem tr_bool {b : Bool} (h : Q b ns) : Tr C n L ls ns (.bool b) Q := fun a ha A h₀ s R G S => by
  obtain rfl := er_bool ha; exact wpAny_truthy_bool (.b S (.refl s) h)
theorem tr_int {i : Int} (h : Q (i != 0) ns) : Tr C n L ls ns (I i) Q := fun a ha A h₀ s R G S => by
  obtain ⟨t, rfl⟩ := er_int ha; exact truthy_int (.b S (.refl s) h)
end

/-! operations on plain values -/
section
variable {Q : Value → NS → Prop} {a b : Int} {x y : Str}
theorem bin_add_int (h : Q (I (a + b)) ns) : Bin C n L ls ns .Add (I a) (I b) Q := fun u v hu hv A h₀ s R G S => by
  obtain ⟨t, rfl⟩ := er_int hu; obtain ⟨t', rfl⟩ := er_int hv; exact add_int (.v S (.of _ _) h)
theorem bin_sub_int (h : Q (I (a - b)) ns) : Bin C n L ls ns .Sub (I a) (I b) Q := fun u v hu hv A h₀ s R G S => by
  obtain ⟨t, rfl⟩ := er_int hu; obtain ⟨t', rfl⟩ := er_int hv; exact sub_int (.v S (.of _ _) h)
theorem bin_mul_int (hz : IntMulOk a b) (h : Q (I (a * b)) ns) : Bin C n L ls ns .Mult (I a) (I b) Q := fun u v hu hv A h₀ s R G S => by
  obtain ⟨t, rfl⟩ := er_int hu; obtain ⟨t', rfl⟩ := er_int hv; exact mul_int (.v S (.of _ _) h) hz
theorem bin_mod_int (hb : b ≠ 0) (h : Q (I (a.fmod b)) ns) : Bin C n L ls ns .Mod (I a) (I b) Q := fun u v hu hv A h₀ s R G S => by
  obtain ⟨t, rfl⟩ := er_int hu; obtain ⟨t', rfl⟩ := er_int hv; exact mod_int' hb (.v S (.of _ _) h)
theorem bin_div_int (hb : b ≠ 0) (hz : Builtin.divisionGoesByPylong a b = false) (h : Q (I (a.fdiv b)) ns) : Bin C n L ls ns .FloorDiv (I a) (I b) Q := fun u v hu hv A h₀ s R G S => by
  obtain ⟨t, rfl⟩ := er_int hu; obtain ⟨t', rfl⟩ := er_int hv; exact floordiv_int hb (.v S (.of _ _) h) (.inl hz)
theorem bin_add_str (hz : x.length + y.length ≤ sizeLine) (h : Q (S (x ++ y)) ns) : Bin C n L ls ns .Add (S x) (S y) Q := fun u v hu hv A h₀ s R G Z => by
  obtain ⟨t, rfl⟩ := er_str hu; obtain ⟨t', rfl⟩ := er_str hv; exact SBL.add (fun _ _ _ => .v Z (.of _ _) h) hz
theorem bin_add_bytes {p q : Array UInt8} (hz : p.size + q.size ≤ 16777216) (h : Q (Y (p ++ q)) ns) : Bin C n L ls ns .Add (Y p) (Y q) Q := fun u v hu hv A h₀ s R G Z => by
  obtain ⟨t, rfl⟩ := er_bytes hu; obtain ⟨t', rfl⟩ := er_bytes hv; exact KBy.add_bytes hz (fun _ _ => .v Z (.of _ _) h)
theorem ip_add_int (h : Q (I (a + b)) ns) : Ip C n L ls ns .Add (I a) (I b) Q := fun u v hu hv A h₀ s R G S => by
  obtain ⟨t, rfl⟩ := er_int hu; obtain ⟨t', rfl⟩ := er_int hv; exact iadd_int (.v S (.of _ _) h)
theorem ip_add_str (hz : x.length + y.length ≤ sizeLine) (h : Q (S (x ++ y)) ns) : Ip C n L ls ns .Add (S x) (S y) Q := fun u v hu hv A h₀ s R G Z => by
  obtain ⟨t, rfl⟩ := er_str hu; obtain ⟨t', rfl⟩ := er_str hv; exact SBL.iadd (fun _ _ _ => .v Z (.of _ _) h) hz
theorem cmp_eq_int (h : Q (.bool (a == b)) ns) : Cmp C n L ls ns .Eq (I a) (I b) Q := fun u v hu hv A h₀ s R G S => by
  obtain ⟨t, rfl⟩ := er_int hu; obtain ⟨t', rfl⟩ := er_int hv; exact eq_int (.v S (.refl _) h)
theorem cmp_ne_int (h : Q (.bool (a != b)) ns) : Cmp C n L ls ns .NotEq (I a) (I b) Q := fun u v hu hv A h₀ s R G S => by
  obtain ⟨t, rfl⟩ := er_int hu; obtain ⟨t', rfl⟩ := er_int hv; exact ne_int (.v S (.refl _) h)
theorem cmp_lt_int (h : Q (.bool (decide (a < b))) ns) : Cmp C n L ls ns .Lt (I a) (I b) Q := fun u v hu hv A h₀ s R G S => by
  obtain ⟨t, rfl⟩ := er_int hu; obtain ⟨t', rfl⟩ := er_int hv; exact lt_int (.v S (.refl _) h)
theorem cmp_gt_int (h : Q (.bool (decide (b < a))) ns) : Cmp C n L ls ns .Gt (I a) (I b) Q := fun u v hu hv A h₀ s R G S => by
  obtain ⟨t, rfl⟩ := er_int hu; obtain ⟨t', rfl⟩ := er_int hv; exact gt_int (.v S (.refl _) h)
theorem cmp_le_int (h : Q (.bool (decide (a ≤ b))) ns) : Cmp C n L ls ns .LtE (I a) (I b) Q := fun u v hu hv A h₀ s R G S => by
  obtain ⟨t, rfl⟩ := er_int hu; obtain ⟨t', rfl⟩ := er_int hv; exact le_int (.v S (.refl _) h)
theorem cmp_ge_int (h : Q (.bool (decide (b ≤ a))) ns) : Cmp C n L ls ns .GtE (I a) (I b) Q := fun u v hu hv A h₀ s R G S => by
  obtain ⟨t, rfl⟩ := er_int hu; obtain ⟨t', rfl⟩ := er_int hv; exact ge_int (.v S (.refl _) h)
theorem cmp_eq_str (h : Q (.bool (x == y)) ns) : Cmp C n L ls ns .Eq (S x) (S y) Q := fun u v hu hv A h₀ s R G Z => by
  obtain ⟨t, rfl⟩ := er_str hu; obtain ⟨t', rfl⟩ := er_str hv; exact eq_str (.v Z (.refl _) h)
theorem cmp_ne_str (h : Q (.bool (x != y)) ns) : Cmp C n L ls ns .NotEq (S x) (S y) Q := fun u v hu hv A h₀ s R G Z => by
  obtain ⟨t, rfl⟩ := er_str hu; obtain ⟨t', rfl⟩ := er_str hv; exact ne_str (.v Z (.refl _) h)
theorem cmp_in_str (h : Q (.bool !(Builtin.Str.occurrences x y 0 x.length 1).isEmpty) ns) : Cmp C n L ls ns .In (S y) (S x) Q := fun u v hu hv A h₀ s R G Z => by
  obtain ⟨t, rfl⟩ := er_str hu; obtain ⟨t', rfl⟩ := er_str hv; exact in_str (.v Z (.refl _) h)
theorem un_neg_int (h : Q (I (-a)) ns) : Op1 C n L ls ns (unaryOp .USub) (I a) Q := fun u hu A h₀ s R G S => by
  obtain ⟨t, rfl⟩ := er_int hu; exact neg_int (.v S (.of _ _) h)
end

/-! statements -/
section
variable {Q : Flow → LS → NS → Prop} {pos : Pos} {st : Stmt} {rest : List Stmt}
theorem ex_nil (h : Q .next ls ns) : Ex C n env ls ns [] Q := fun A h₀ s R G S => wpAny_execs_nil ⟨ls, ns, S, .refl s, h⟩
theorem ex_cons (h : Ex1 C n env ls ns st fun f l m => match f with | .next => Ex C n env l m rest Q | f => Q f l m) : Ex C n env ls ns (st :: rest) Q :=
  fun A h₀ s R G S => wpAny_execs_cons (T.run h R G S fun f s1 l m S1 k1 q => by
    cases f with
    | next => exact T.next q R G S1 k1
    | brk => exact ⟨l, m, S1, k1, q⟩
    | cont => exact ⟨l, m, S1, k1, q⟩
    | ret v => exact ⟨l, m, S1, k1, q⟩)
theorem x_ret {e : Expr} (h : Ev C n env ls ns e fun v m => Q (.ret v) ls m) : Ex1 C n env ls ns (.Return (some e) pos) Q :=
  fun A h₀ s R G S => wpAny_Return_some (h.run R G S fun v s1 m S1 k1 q => ⟨ls, m, S1, k1, q⟩)
theorem x_break (h : Q .brk ls ns) : Ex1 C n env ls ns (.Break pos) Q := fun A h₀ s R G S => wpAny_Break ⟨ls, ns, S, .refl s, h⟩
theorem x_continue (h : Q .cont ls ns) : Ex1 C n env ls ns (.Continue pos) Q := fun A h₀ s R G S => wpAny_Continue ⟨ls, ns, S, .refl s, h⟩
theorem x_if {t : Expr} {a b : List Stmt} (h : Tt C n env ls ns t fun c m => if c = true then Ex C n env ls m a Q else Ex C n env ls m b Q) : Ex1 C n env ls ns (.If t a b pos) Q :=
  fun A h₀ s R G S => wpAny_If (h.run R G S fun c s1 m S1 k1 q => by cases c <;> exact T.next q R G S1 k1)
theorem as_name {x : Str} {p : Pos} {v : Value} {Q : LS → NS → Prop} (he : FnEnv env) (hx : env.kindOf x = some .local) (h : Q ((x, v) :: ls) ns) : As C n env ls ns (.Name x p) v Q :=
  fun v' hv A h₀ s R G S => by
    subst hv
    obtain ⟨m, F, hl⟩ := id S.fr
    refine assign_Name (wpAny_storeName_local hx F (fun h' hn hs => ⟨_, ns, S.store (fun m' hm => ?_) hs, .of _ _, h⟩) (by rw [he.k]; rfl))
    rw [ns_uniq hm F]; exact hn
theorem x_assign {t e : Expr} (h : Ev C n env ls ns e fun v m => As C n env ls m t v fun l m' => Q .next l m')
    (hs : swapsWithSole [t] e pos.line env = pure false := by rfl) (hw : swappedStores [t] e env = pure none := by rfl) (hz : ∀ v, assignAll v ((assignEach [t] env).map (·.2)) = assign t env v := by intro _; rfl) : Ex1 C n env ls ns (.Assign [t] e pos) Q :=
  fun A h₀ s R G S => wpAny_Assign_stores (h.run R G S fun v s1 m S1 k1 q => by rw [hz]; exact T.run (q v rfl) R G S1 fun _ s2 l m2 S2 k2 q2 => ⟨l, m2, S2, k1.trans k2, q2⟩) hs hw
theorem x_assign3 {t t' t'' e : Expr} (h : Ev C n env ls ns e fun v m => As C n env ls m t v fun l m' => As C n env l m' t' v fun l m' => As C n env l m' t'' v fun l m' => Q .next l m')
    (he : (assignEach [t, t', t''] env).map (·.2) = [assign t env, assign t' env, assign t'' env] := by rfl) (hw : swappedStores [t, t', t''] e env = pure none := by rfl) : Ex1 C n env ls ns (.Assign [t, t', t''] e pos) Q :=
  fun A h₀ s R G S => wpAny_Assign_three (h.run R G S fun v s1 m S1 k1 q => T.run (q v rfl) R G S1 fun _ s2 l m2 S2 k2 q2 => T.run (q2 v rfl) R G S2 fun _ s3 l3 m3 S3 k3 q3 =>
    T.run (q3 v rfl) R G S3 fun _ s4 l4 m4 S4 k4 q4 => ⟨l4, m4, S4, k1.trans (k2.trans (k3.trans k4)), q4⟩) he hw
theorem x_expr {e : Expr} (h : Ev C n env ls ns e fun v m => Q .next ls m) (hi : interactive env = false := by rfl) (hs : swapsWith e none pos.line env = pure false := by rfl) : Ex1 C n env ls ns (.Expr e pos) Q :=
  fun A h₀ s R G S => wpAny_Expr_any (h.run R G S fun v s1 m S1 k1 q => ⟨ls, m, S1, k1, q⟩) hi hs
theorem x_aug {x : Str} {p : Pos} {e : Expr} {op : Operator} {v₀ : Value} (he : FnEnv env) (hx : env.kindOf x = some .local) (hv : ls.lookup x = some v₀)
    (h : Ev C n env ls ns e fun v m => Ip C n env.locals ls m op v₀ v fun r m' => Q .next ((x, r) :: ls) m') : Ex1 C n env ls ns (.AugAssign (.Name x p) op e pos) Q :=
  fun A h₀ s R G S => by
    obtain ⟨m, F, hl⟩ := id S.fr
    obtain ⟨u, hu, eu⟩ := hl x v₀ hv
    refine wpAny_AugAssign_Name (wpAny_loadName_local he.k hx F hu (h.run R G S fun v s1 m1 S1 k1 q => (q u v eu rfl).run R G S1 fun r s2 m2 S2 k2 q2 => ?_))
    obtain ⟨m', F', _⟩ := id S2.fr
    exact wpAny_storeName_local hx F' (fun h' hn hs => ⟨_, m2, S2.store (fun m'' hm => by rw [ns_uniq hm F']; exact hn) hs, (k1.trans k2).trans (.of _ _), q2⟩) (by rw [he.k]; rfl)
end
end
/-! arguments and calls -/
def Ar (C : Cx) (n : Nat) (env : Env) (ls : LS) (ns : NS) (pos : Pos) (es : List Expr) (Q : List Value → NS → Prop) : Prop :=
  T C n env.locals ls ns (spliced (backTo pos (starEach es env))) fun vs l m => l = ls ∧ Q (vs.map er) m
def Cl (C : Cx) (n : Nat) (L : Addr) (ls : LS) (ns : NS) (f : Value) (vs : List Value) (Q : Value → NS → Prop) : Prop :=
  ∀ vs', vs'.map er = vs → Vl C n L ls ns (call f vs') Q
def Cw (C : Cx) (n : Nat) (env : Env) (ls : LS) (ns : NS) (pos : Pos) (f : Value) (first : List Value) (es : List Expr) (Q : Value → NS → Prop) : Prop :=
  ∀ f' fs', er f' = f → fs'.map er = first → Vl C n env.locals ls ns (callWith pos f' fs' (backTo pos (starEach es env)) []) Q

theorem starEach_false {env : Env} : ∀ {es : List Expr}, (starEach es env).any (·.1) = false → ∀ p : Pos, (backTo p (starEach es env)).any (·.1) = false := by
  intro es h p
  unfold backTo
  rw [List.any_map]
  exact h

section
variable {C : Cx} {n : Nat} {L : Addr} {ls : LS} {ns : NS} {env : Env} {pos : Pos}
theorem ar_nil {Q : List Value → NS → Prop} (h : Q [] ns) : Ar C n env ls ns pos [] Q := fun A h₀ s R G S => args_nil ⟨ls, ns, S, .refl s, rfl, h⟩
theorem ar_cons {e : Expr} {rest : List Expr} {Q : List Value → NS → Prop} (h : Ev C n env ls ns e fun v m => Ar C n env ls m pos rest fun vs m' => Q (v :: vs) m')
    (he : starEach (e :: rest) env = (false, eval e env) :: starEach rest env := by rfl) : Ar C n env ls ns pos (e :: rest) Q :=
  fun A h₀ s R G S => args_cons (h.run R G S fun v s1 m S1 k1 q => T.run q R G S1 fun vs s2 l m2 S2 k2 q2 => ⟨l, m2, S2, k1.trans k2, q2.1, q2.2⟩) he
theorem Ar.run {es : List Expr} {Q : List Value → NS → Prop} (h : Ar C n env ls ns pos es Q) {A : Around} {h₀ : Heap} {s : Shared} {Q' : List Value → Shared → Prop} (R : Rm n A) (G : Gd C h₀) (S : St C h₀ env.locals ls ns s.heap)
    (hQ : ∀ a s' ns', St C h₀ env.locals ls ns' s'.heap → Later s s' → Q (a.map er) ns' → Q' a s') : wpAny C.M A (spliced (backTo pos (starEach es env))) Q' Bot s :=
  T.run h R G S fun _ _ _ _ S' k q => by obtain ⟨rfl, q⟩ := q; exact hQ _ _ _ S' k q
theorem evalArgs_all {M : Model} {A : Around} {E : Value → Shared → Prop} {s : Shared} {f : Value} {ts : List (Bool × Sem Value)} {Q : Args → Shared → Prop} (hp : ts.any (·.1) = false)
    (h : wpAny M A (spliced ts) (fun vs s' => Q ⟨vs, []⟩ s') E s) : wpAny M A (evalArgs f true ts []) Q E s := by
  cases ts with
  | nil =>
    unfold evalArgs
    show wpAny M A (spliced [] >>= _) Q E s
    refine wpAny_bind (wpAny_mono h (fun vs s' h' => ?_) fun _ _ x => x)
    refine wpAny_holding ?_
    exact wpAny_bind (wpAny_pure (wpAny_bind (wpAny_pure (wpAny_pure h'))))
  | cons e r =>
    obtain ⟨b, t⟩ := e
    simp only [List.any_cons, Bool.or_eq_false_iff] at hp
    obtain ⟨rfl, _⟩ := hp
    exact evalArgs_plain h

theorem ev_call {func : Expr} {args : List Expr} {Q : Value → NS → Prop} (h : Ev C n env ls ns func fun f m => Cw C n env ls m pos f [] args Q)
    (he : eval (.Call func args [] pos) env = (do callWith pos (← eval func env) [] (backTo pos (starEach args env)) (backToKw pos (keywordEach [] env))) := by rfl) : Ev C n env ls ns (.Call func args [] pos) Q :=
  fun A h₀ s R G S => Call_ (h.run R G S fun f s1 m S1 k1 q => (q f [] rfl rfl).next R G S1 k1) he
/-- a method's call: the method that the value hands out -/
def Gm (C : Cx) (n : Nat) (L : Addr) (ls : LS) (ns : NS) (o : Value) (name : Str) (Q : Value → List Value → NS → Prop) : Prop :=
  ∀ o' pl, er o' = o → T C n L ls ns (getMethod o' name pl) fun p l m => l = ls ∧ Q (er p.1) (p.2.map er) m
theorem ev_meth {o : Expr} {name : Str} {apos : Pos} {args : List Expr} {pl : Sem Bool} {Q : Value → NS → Prop} (h : Ev C n env ls ns o fun ov m => Gm C n env.locals ls m ov name fun f first m' => Cw C n env ls m' pos f first args Q)
    (he : eval (.Call (.Attribute o name apos) args [] pos) env = (do
      let ov ← eval o env
      standAt apos.atName
      let (f, first) ← holding [ov] (getMethod ov name pl)
      callWith pos f first (backTo pos (starEach args env)) []) := by rfl) : Ev C n env ls ns (.Call (.Attribute o name apos) args [] pos) Q :=
  fun A h₀ s R G S => MethodCall_ (h.run R G S fun ov s1 m S1 k1 q => T.run (q ov pl rfl) R G S1 fun p s2 l m2 S2 k2 q2 => by
    obtain ⟨rfl, q2⟩ := q2
    exact (q2 p.1 p.2 rfl rfl).next R G S2 (k1.trans k2)) he

section
variable {first : List Value} {es : List Expr} {Q : Value → NS → Prop}
theorem cw_blt {id : String} (hp : (starEach es env).any (·.1) = false) (h : Ar C n env ls ns pos es fun vs m => Cl C n env.locals ls m (.builtin id) (first ++ vs) Q) : Cw C n env ls ns pos (.builtin id) first es Q :=
  fun f' fs' hf hfs A h₀ s R G S => by
    obtain rfl := er_builtin hf
    exact callWith_builtin (starEach_false hp pos) (evalArgs_all (starEach_false hp pos) (h.run R G S fun vs s1 m S1 k1 q => (q (fs' ++ vs) (by rw [List.map_append, hfs])).next R G S1 k1))
theorem cw_type {id : String} (hp : (starEach es env).any (·.1) = false) (h : Ar C n env ls ns pos es fun vs m => Cl C n env.locals ls m (.type id) (first ++ vs) Q) : Cw C n env ls ns pos (.type id) first es Q :=
  fun f' fs' hf hfs A h₀ s R G S => by
    obtain rfl := er_type hf
    exact PyProof.Rows.callWith_type (starEach_false hp pos) (evalArgs_all (starEach_false hp pos) (h.run R G S fun vs s1 m S1 k1 q => (q (fs' ++ vs) (by rw [List.map_append, hfs])).next R G S1 k1))
theorem cw_K {f : Addr} (hk : keepIn C.K (.ref f) = true) (hp : (starEach es env).any (·.1) = false) (h : Ar C n env ls ns pos es fun vs m => Cl C n env.locals ls m (.ref f) (first ++ vs) Q) : Cw C n env ls ns pos (.ref f) first es Q :=
  fun f' fs' hf hfs A h₀ s R G S => by
    obtain rfl := er_ref hf
    exact callWith_of (P := fun h => C.K.In h) (by rw [starEach_false hp pos]; rfl) (keeps_K hk) (evalArgs_all (starEach_false hp pos) (h.run R G S fun vs s1 m S1 k1 q => ⟨(S1.gd G).X, (q (fs' ++ vs) (by rw [List.map_append, hfs])).next R G S1 k1⟩))
end

/-! the base anew -/
theorem St.leave {h₀ g h' : Heap} {L L' : Addr} {ls ls' : LS} {m m' : NS} {h : Heap} (S : St C h₀ L ls ns h) (up : ∀ b o, h₀.get? b = some o → g.get? b = some o) (hL : ∀ o, h.get? L = some o → g.get? L = some o)
    (S' : St C g L' ls' m h') (hm : m'.Sublist m) : St C h₀ L ls m' h' := by
  obtain ⟨mm, F, hl⟩ := S.fr
  obtain ⟨oL, es, ep, hoL, r⟩ := id F
  refine ⟨⟨mm, F.at' fun o e => S'.keep _ _ (hL o e), hl⟩, fun b o e => S'.keep _ _ (up b o e), S.nL, fun p hp => ?_, (hm.map _).nodup S'.nd⟩
  obtain ⟨_, z, o, e, w⟩ := S'.nw p (hm.subset hp)
  refine ⟨fun q => ?_, ?_, o, e, w⟩
  · rw [q, hL _ hoL] at z; cases z
  · cases q : h₀.get? p.1 with
    | none => rfl
    | some x => rw [up _ _ q] at z; cases z

/-- the call as a code -/
def Cd (C : Cx) (n : Nat) (L : Addr) (ls : LS) (ns : NS) (f : Value) (vs : List Value) (Q : Value → NS → Prop) : Prop :=
  ∀ vs' A h₀ s, vs'.map er = vs → Rm n A → Gd C h₀ → St C h₀ L ls ns s.heap → codeAny C.M A (.call f ⟨vs', []⟩) (fun r s' => ∃ v, r = .ok (.ret v) ∧ Post C h₀ L s (fun v l m => l = ls ∧ Q (er v) m) v s') s
theorem Cd.cl {f : Value} {vs : List Value} {Q : Value → NS → Prop} (h : Cd C n L ls ns f vs Q) : Cl C n L ls ns f vs Q := fun vs' hvs A h₀ s R G S =>
  wpAny_call (codeAny_mono (h vs' A h₀ s hvs R G S) fun r s' ⟨v, e, q⟩ => by subst e; exact q)

def retOf : Flow → Value
  | .ret v => v
  | _ => .none
/-- a call of a def of the text's, without cells -/
theorem cd_def {f : Addr} {name qual : Str} {params : Arguments} {body : List Stmt} {scope : Scope} {dV kV doc pm cdv ct oc : Value} {an od : Option Addr} {osl : Array (Option Value)} {vs : List Value} {binds : LS} {Q : Value → NS → Prop}
    (ho : C.K.lookup f = some ⟨oc, od, .func (fnOf name qual params body scope dV kV doc pm an cdv ct), osl⟩) (hcd : codeIn C.K cdv qual = true)
    (hbind : ∀ vs', vs'.map er = vs → ∃ b', bindArgs (fnOf name qual params body scope dV kV doc pm an cdv ct) ⟨vs', []⟩ = pure b' ∧ b'.map (fun p => (p.1, er p.2)) = binds)
    (hloc : ∀ y ∈ binds, scope.names.lookup y.1 = some .local) (hcell : ∀ x ∈ scope.names, x.2 ≠ .cell)
    (h : ∀ L', Ex C n (envX qual scope L' f cdv []) binds.reverse ns body fun fl l m => ∃ m', m'.Sublist m ∧ Q (retOf fl) m')
    (hco : scope.isCoroutine = false := by rfl) (hgen : scope.isGenerator = false := by rfl) (hk : scope.kind = .function := by rfl) : Cd C (n + 1) L ls ns (.ref f) vs Q := fun vs' A h₀ s hvs R G S => by
  obtain ⟨b', hb, hb'⟩ := hbind vs' hvs
  have X := (S.gd G).X
  refine codeAny_call_def (fd := fnOf name qual params body scope dV kV doc pm an cdv ct) (body := body) (binds := b') R.room (X _ _ ho) rfl (S.gd G).nolimit (codeRec_of X hcd) rfl (.of_eq hb) hcell
    (fun y hy => hloc (y.1, er y.2) (hb' ▸ List.mem_map.mpr ⟨y, hy, rfl⟩)) (fun h₁ hns hk₁ => ?_) hco hgen hk
  have up : ∀ b o, h₀.get? b = some o → (hideAll s.heap (ns.map (·.1))).get? b = some o := fun b o e => hideAll_get _ (S.keep b o e) fun q => by
    obtain ⟨p, hp, rfl⟩ := List.mem_map.mp q
    rw [(S.nw p hp).2.1] at e; cases e
  have hL : ∀ o, s.heap.get? L = some o → (hideAll s.heap (ns.map (·.1))).get? L = some o := fun o e => hideAll_get _ e fun q => by
    obtain ⟨p, hp, e⟩ := List.mem_map.mp q
    exact (S.nw p hp).1 e
  have S₁ : St C (hideAll s.heap (ns.map (·.1))) s.heap.objs.size binds.reverse ns h₁ := by
    refine ⟨⟨_, hns, fun x v e => ?_⟩, fun b o e => hk₁ _ _ (of_hideAll _ e), none_of_size (Nat.le_of_eq (hideAll_size _ _)), fun p hp => ?_, S.nd⟩
    · rw [← hb', ← List.map_reverse] at e
      generalize b'.reverse = r at e
      induction r with
      | nil => cases e
      | cons q r ih =>
        obtain ⟨y, u⟩ := q
        rw [List.map_cons, List.lookup_cons] at e
        rw [List.lookup_cons]
        by_cases hy : x == y
        · simp only [hy] at e ⊢; exact ⟨u, rfl, Option.some.inj e⟩
        · simp only [hy] at e ⊢; exact ih e
    · obtain ⟨_, _, o, e, w⟩ := S.nw p hp
      exact ⟨Nat.ne_of_lt (Heap.lt_size e), hideAll_none _ (List.mem_map_of_mem hp), o, hk₁ _ _ e, w⟩
  refine wpAny_mono (h s.heap.objs.size _ _ _ R.deeper (G.keeps up) S₁) (fun fl s' q => ?_) fun _ _ e => e.elim
  obtain ⟨l, m, S', k, m', hm, q⟩ := q
  have q' : Q (er (retOf fl)) m' := by cases fl <;> exact q
  have : Post C h₀ L s (fun v l m => l = ls ∧ Q (er v) m) (retOf fl) s' := ⟨ls, m', S.leave up hL S' hm, (Later.of _ _).trans k, rfl, q'⟩
  cases fl <;> exact ⟨_, rfl, this⟩

/-! loops -/
theorem whileStep {prog : Program} {w : World} {A : Around} {R : Result → Shared → Prop} {s : Shared} {test : Expr} {body : List Stmt}
    (h : wpAny (model prog w) A (isTrue test env (eval test env)) (fun b s₂ =>
        if b then wpAny (model prog w) A (execs body env) (fun f s₃ => match f with
            | .next | .cont => codeAny (model prog w) A (.whileLoop test body [] env) R s₃
            | .brk => R (.ok .next) s₃
            | .ret v => R (.ok (.ret v)) s₃) Bot s₂
        else R (.ok .next) s₂) Bot s) : codeAny (model prog w) A (.whileLoop test body [] env) R s := by
  refine codeAny_of_tree ?_
  show wpAny _ A ((whileTurn test body [] env).onRaise (fun x => do noteFrame x env; theTreesLotGoes x)) _ _ s
  refine wpAny_noted ?_
  simp only [whileTurn]
  refine wpAny_bind (wpAny_mono h (fun b s₂ h₂ => ?_) fun _ _ h' => h'.elim)
  cases b with
  | false =>
    simp only [Bool.false_eq_true, if_false] at h₂ ⊢
    exact wpAny_bind (wpAny_execs_nil (wpAny_pure h₂))
  | true =>
    simp only [if_true] at h₂ ⊢
    refine wpAny_bind (wpAny_mono h₂ (fun f s₃ h₃ => ?_) fun _ _ h' => h'.elim)
    cases f with
    | next => exact wpAny_pure ⟨rfl, h₃⟩
    | cont => exact wpAny_pure ⟨rfl, h₃⟩
    | brk => exact wpAny_pure h₃
    | ret v => exact wpAny_pure h₃

def toFlow {C : Cx} (h₀ : Heap) (L : Addr) (s : Shared) (Q : Flow → LS → NS → Prop) (r : Result) (s' : Shared) : Prop := match r with
  | .ok f => Post C h₀ L s (fun f l m => Q (erF f) l m) f s'
  | .error _ => False
/-- a while loop that stands before its test -/
def Wl (C : Cx) (n : Nat) (env : Env) (ls : LS) (ns : NS) (test : Expr) (body : List Stmt) (Q : Flow → LS → NS → Prop) : Prop :=
  ∀ (A : Around) (h₀ : Heap) (s s₀ : Shared), Rm n A → Gd C h₀ → St C h₀ env.locals ls ns s.heap → Later s₀ s → codeAny C.M A (.whileLoop test body [] env) (toFlow (C := C) h₀ env.locals s₀ Q) s
theorem x_while {test : Expr} {body : List Stmt} {Q : Flow → LS → NS → Prop} (h : Wl C n env ls ns test body Q) : Ex1 C n env ls ns (.While test body [] pos) Q :=
  fun A h₀ s R G S => wpAny_While (codeAny_mono (h A h₀ s s R G S (.refl s)) fun r s' q => by
    cases r with
    | ok f => exact q
    | error e => exact q.elim)
def loopEnd (k : LS → NS → Prop) (Q : Flow → LS → NS → Prop) : Flow → LS → NS → Prop
  | .next, l, m => k l m
  | .cont, l, m => k l m
  | .brk, l, m => Q .next l m
  | .ret v, l, m => Q (.ret v) l m
theorem wl_step {test : Expr} {body : List Stmt} {Q : Flow → LS → NS → Prop}
    (h : Tt C n env ls ns test fun c m => if c = true then Ex C n env ls m body (loopEnd (fun l m' => Wl C n env l m' test body Q) Q) else Q .next ls m) : Wl C n env ls ns test body Q :=
  fun A h₀ s s₀ R G S k => whileStep (h.run R G S fun c s1 m S1 k1 q => by
    cases c
    · exact ⟨ls, m, S1, k.trans k1, q⟩
    · refine T.run q R G S1 fun f s2 l m2 S2 k2 q2 => ?_
      cases f with
      | next => exact q2 A h₀ s2 s₀ R G S2 (k.trans (k1.trans k2))
      | cont => exact q2 A h₀ s2 s₀ R G S2 (k.trans (k1.trans k2))
      | brk => exact ⟨l, m2, S2, k.trans (k1.trans k2), q2⟩
      | ret v => exact ⟨l, m2, S2, k.trans (k1.trans k2), q2⟩)
end
def Sb (C : Cx) (n : Nat) (env : Env) (ls : LS) (ns : NS) (value slice : Expr) := Op2 C n env.locals ls ns (subscriptTail value slice)
/-- the item of o at a slice of these parts -/
def Sl (C : Cx) (n : Nat) (L : Addr) (ls : LS) (ns : NS) (o l u st : Value) (Q : Value → NS → Prop) : Prop :=
  ∀ o' l' u' st' sl A h₀ s, er o' = o → er l' = l → er u' = u → er st' = st → Rm n A → Gd C h₀ → St C h₀ L ls ns s.heap → s.heap.IsSliceOf sl l' u' st' →
    (∃ T id, typeLookup (.type T) "__getitem__" = Pure.pure (some (.builtin id)) ∧ s.TypeIs o' T) ∧ wpAny C.M A (getItem o' (.ref sl)) (Post C h₀ L s fun v l m => l = ls ∧ Q (er v) m) Bot s
/-- a slice's part -/
def Ep (C : Cx) (n : Nat) (env : Env) (ls : LS) (ns : NS) (e : Option Expr) (Q : Value → NS → Prop) : Prop := Vl C n env.locals ls ns (evalPart e env) Q

theorem ispart_of {v : Value} {i : Option Int} (h : er v = i.elim .none I) : IsPart v i := by
  cases i with
  | none => rw [er_none h]; exact .none
  | some i => obtain ⟨t, rfl⟩ := er_int h; exact .int i t
theorem part_of {v : Value} {i : Option Int} (h : er v = i.elim .none I) : ∃ p : Option (Int × Tok), v = partValue p ∧ p.map (·.1) = i := by
  cases i with
  | none => exact ⟨none, by rw [er_none h]; rfl, rfl⟩
  | some i => obtain ⟨t, rfl⟩ := er_int h; exact ⟨some (i, t), rfl, rfl⟩

/-- a list that may be read -/
inductive HasL (ns : NS) (a : Addr) (vs : List Value) : Prop
  | list : (a, PO.list vs) ∈ ns → HasL ns a vs
  | raw {xs : Array Value} {n : Nat} : (a, PO.raw { cls := .type "list", data := .seq xs n }) ∈ ns → xs.toList.map er = vs → HasL ns a vs
section
variable {C : Cx} {n : Nat} {L : Addr} {ls : LS} {ns : NS} {env : Env} {pos p : Pos} {value slice : Expr}
section
variable {Q : Value → NS → Prop}
theorem ev_sub (h : Ev C n env ls ns value fun o m => Ev C n env ls m slice fun i m' => Sb C n env ls m' value slice o i Q) : Ev C n env ls ns (.Subscript value slice pos) Q :=
  fun A h₀ s R G S => Subscript_ (h.run R G S fun a s1 m S1 k1 q => q.run R G S1 fun b s2 m2 S2 k2 q2 => (q2 a b rfl rfl).next R G S2 (k1.trans k2))
theorem ep_none (h : Q .none ns) : Ep C n env ls ns none Q := fun A h₀ s R G S => wpAny_pure (.v S (.refl s) h)
theorem ep_some {e : Expr} (h : Ev C n env ls ns e Q) : Ep C n env ls ns (some e) Q := h
theorem ev_slice {l u st : Option Expr} (h : Ev C n env ls ns value fun o m => Ep C n env ls m l fun vl m1 => Ep C n env ls m1 u fun vu m2 => Ep C n env ls m2 st fun vs m3 => Sl C n env.locals ls m3 o vl vu vs Q)
    (hs : ∀ o i, ∃ ops, subscripted (.Slice l u st p) false o i = operate ops (getItem o i)) : Ev C n env ls ns (.Subscript value (.Slice l u st p) pos) Q :=
  fun A h₀ s R G S => Subscript_ (h.run R G S fun o s1 m S1 k1 q => wpAny_Slice (Vl.run q R G S1 fun a s2 m2 S2 k2 q2 => Vl.run q2 R G S2 fun b s3 m3 S3 k3 q3 => Vl.run q3 R G S3 fun c s4 m4 S4 k4 q4 => by
    obtain ⟨ops, hops⟩ := hs o (.ref s4.heap.objs.size)
    have S5 : St C h₀ env.locals ls m4 (s4.heap.push { cls := .type "slice", data := .fields #[a, b, c] }) := S4.ext fun _ _ e => Heap.get?_push_of_some _ e
    obtain ⟨⟨T, id, hl, hT⟩, hg⟩ := q4 o a b c s4.heap.objs.size A h₀ { s4 with heap := s4.heap.push { cls := .type "slice", data := .fields #[a, b, c] } } rfl rfl rfl rfl R G S5 (Heap.IsSliceOf.new _ _ _ _)
    exact tail_any hT hl (wpAny_mono hg (fun v s6 q6 => by
      obtain ⟨l, m, S6, k6, q6⟩ := q6
      exact ⟨l, m, S6, (k1.trans (k2.trans (k3.trans (k4.trans (.of _ s4.toks))))).trans k6, q6⟩) fun _ _ e => e) hops))
theorem sl_str {x : Str} {lo hi : Option Int} (hz : x.length ≤ sizeLine) (h : Q (S (Txt.slice x lo hi)) ns) : Sl C n L ls ns (S x) (lo.elim .none I) (hi.elim .none I) .none Q :=
  fun o' l' u' st' sl A h₀ s ho hl hu hst R G Z hsl => by
    obtain ⟨t, rfl⟩ := er_str ho
    obtain ⟨pl, rfl, el⟩ := part_of hl
    obtain ⟨pu, rfl, eu⟩ := part_of hu
    obtain rfl := er_none hst
    subst el eu
    refine ⟨⟨"str", _, F.slot_str_getitem.lookup, typeIs_str _ _ _⟩, ?_⟩
    refine wpAny_getItem_str_slice (l := pl) (u := pu) (st := none) hsl rfl (post_val_or_str ⟨Nat.le_trans (Txt.slice_le x _ _) hz, fun t' k => ?_⟩)
    exact .v Z (.of _ _) h
theorem sl_bytes {x : Array UInt8} {lo hi : Option Int} (hz : x.size ≤ sizeLine) (h : Q (Y (KBy.picked x lo hi)) ns) : Sl C n L ls ns (Y x) (lo.elim .none I) (hi.elim .none I) .none Q :=
  fun o' l' u' st' sl A h₀ s ho hl hu hst R G Z hsl => by
    obtain ⟨t, rfl⟩ := er_bytes ho
    have pl := ispart_of hl
    have pu := ispart_of hu
    obtain rfl := er_none hst
    refine ⟨⟨"bytes", _, FB.slot_bytes_getitem.lookup, typeIs_bytes _ _ _⟩, ?_⟩
    exact getItem_meets (typeIs_bytes _ _ _) (by decide) FB.slot_bytes_getitem FB.entry_bytes_getitem (FB.args_bytes_getitem_2 _ _) (KBc.meets_slice2 x t _ pl pu) ⟨hsl, Nat.le_trans (KBc.size_picked_le x lo hi) hz, fun t' k => .v Z (.of _ _) h⟩
theorem getList {h₀ h : Heap} {a : Addr} {vs : List Value} (S : St C h₀ L ls ns h) (hm : HasL ns a vs) : ∃ xs n, h.get? a = some { cls := .type "list", data := .seq xs n } ∧ h.IsList a xs ∧ xs.toList.map er = vs := by
  cases hm with
  | list hm =>
    obtain ⟨o, e, xs, n, rfl, hv⟩ := S.get hm
    exact ⟨xs, n, e, ⟨_, e, rfl, n, rfl⟩, hv⟩
  | @raw xs n hm hv =>
    obtain ⟨o, e, ho⟩ := S.get hm
    obtain rfl : o = _ := ho
    exact ⟨xs, n, e, ⟨_, e, rfl, n, rfl⟩, hv⟩
theorem getTup {h₀ h : Heap} {a : Addr} {vs : List Value} (S : St C h₀ L ls ns h) (hm : (a, PO.tup vs) ∈ ns) : ∃ xs n, h.get? a = some { cls := .type "tuple", data := .seq xs n } ∧ IsTup h a xs ∧ xs.toList.map er = vs := by
  obtain ⟨o, e, xs, n, rfl, hv⟩ := S.get hm
  exact ⟨xs, n, e, ⟨_, e, rfl, n, rfl⟩, hv⟩
theorem er_get {xs : Array Value} {vs : List Value} (hv : xs.toList.map er = vs) {k : Nat} {v : Value} (h : vs[k]? = some v) : ∃ u, xs[k]? = some u ∧ er u = v := by
  rw [← hv, List.getElem?_map] at h
  cases e : xs.toList[k]? with
  | none => rw [e] at h; cases h
  | some u => rw [e] at h; exact ⟨u, by rw [← Array.getElem?_toList]; exact e, Option.some.inj h⟩
def pickL (vs : List Value) (lo hi st : Option Int) : List Value := (slicePick vs.toArray lo hi st).toList
theorem er_pick {xs : Array Value} {vs : List Value} (hv : xs.toList.map er = vs) (lo hi st : Option Int) : (slicePick xs lo hi st).toList.map er = pickL vs lo hi st := by
  subst hv
  unfold pickL slicePick
  have e : (xs.toList.map er).toArray.size = xs.size := by simp
  rw [e]
  simp only [List.map_filterMap, List.getElem?_toArray, List.getElem?_map, Array.getElem?_toList]
theorem er_size {xs : Array Value} {vs : List Value} (hv : xs.toList.map er = vs) : xs.size = vs.length := by rw [← hv]; simp
theorem sl_list {a : Addr} {vs : List Value} {lo hi st : Option Int} (hm : HasL ns a vs) (h0 : st ≠ some 0) (hz : vs.length ≤ sizeLine) (h : ∀ b, Q (.ref b) ((b, .list (pickL vs lo hi st)) :: ns)) :
    Sl C n L ls ns (.ref a) (lo.elim .none I) (hi.elim .none I) (st.elim .none I) Q :=
  fun o' l' u' st' sl A h₀ s ho hl hu hst R G Z hsl => by
    obtain rfl := er_ref ho
    obtain ⟨xs, k, e, hx, hv⟩ := getList Z hm
    refine ⟨⟨"list", _, slot_list_getitem.lookup, hx.typeIs⟩, ?_⟩
    exact wpAny_getItem_list_slice hx hsl (ispart_of hl) (ispart_of hu) (ispart_of hst) h0 (.v (Z.alloc (o := .list (pickL vs lo hi st)) ⟨_, 0, rfl, er_pick hv lo hi st⟩) (.of _ s.toks) (h _)) (by rw [er_size hv]; exact hz)

/-! items -/
theorem sb_str {x : Str} {i : Int} (h0 : -(x.length : Int) ≤ i) (h1 : i < x.length) (hz : x.length ≤ sizeLine) (h : Q (S (Txt.item x i)) ns)
    (hs : ∀ o k, subscripted slice false o k = operate [o, k] (getItem o k)) (ht : ∀ t r, letTemporaryGo value (.str x t) r = Pure.pure ()) : Sb C n env ls ns value slice (S x) (I i) Q := fun o k ho hk A h₀ s R G Z => by
  obtain ⟨t, rfl⟩ := er_str ho; obtain ⟨t', rfl⟩ := er_int hk
  exact KXi.item rfl h0 h1 (by rw [sizeLine_eq] at hz; exact hz) (fun _ => .v Z (.of _ _) h) (hs _ _) (ht _)
theorem getItem_list {h₀ : Heap} {a : Addr} {vs : List Value} {i : Int} {v : Value} {A : Around} {s : Shared} {t : Tok} (hm : HasL ns a vs) (h0 : 0 ≤ i) (hz : vs.length ≤ sizeLine) (hv : vs[i.toNat]? = some v)
    (R : Rm n A) (G : Gd C h₀) (Z : St C h₀ L ls ns s.heap) (h : Q v ns) : wpAny C.M A (getItem (.ref a) (.int i t)) (Post C h₀ L s fun v l m => l = ls ∧ Q (er v) m) Bot s := by
  obtain ⟨xs, k, e, hx, hxs⟩ := getList Z hm
  obtain ⟨u, hu, eu⟩ := er_get hxs hv
  have hlt : i.toNat < vs.length := by
    rcases Nat.lt_or_ge i.toNat vs.length with q | q
    · exact q
    · rw [List.getElem?_eq_none q] at hv; cases hv
  rw [sizeLine_eq] at hz
  exact wpAny_getItem_list hx h0 (by omega) hu (.v Z (.refl s) (eu ▸ h))
theorem sb_list {a : Addr} {vs : List Value} {i : Int} {v : Value} (hm : HasL ns a vs) (h0 : 0 ≤ i) (hz : vs.length ≤ sizeLine) (hv : vs[i.toNat]? = some v) (h : Q v ns)
    (hs : ∀ o k, subscripted slice false o k = operate [o, k] (getItem o k)) : Sb C n env ls ns value slice (.ref a) (I i) Q := fun o k ho hk A h₀ s R G Z => by
  obtain rfl := er_ref ho; obtain ⟨t', rfl⟩ := er_int hk
  obtain ⟨xs, m, e, hx, hxs⟩ := getList Z hm
  exact tail_any hx.typeIs slot_list_getitem.lookup (getItem_list hm h0 hz hv R G Z h) (hs _ _)
end
end
section
variable {C : Cx} {n : Nat} {L : Addr} {ls : LS} {ns ns' : NS} {env : Env} {pos p : Pos} {value slice : Expr} {a : Addr} {vs ws : List Value}
theorem St.seq {h₀ h : Heap} {xs : Array Value} {k : Nat} (S : St C h₀ L ls ns h) (u : Put a (.list vs) (.list ws) ns ns') (e : h.get? a = some { cls := .type "list", data := .seq xs k }) (f : Array Value → Array Value)
    (hf : (f xs).toList.map er = ws) : St C h₀ L ls ns' (h.update a (Obj.mapSeq f)) :=
  S.put u (fun b x hb e => (Heap.get?_update_ne _ _ _ _ hb).trans e) (PySem.IsL.update (n := k) e f) ⟨_, _, rfl, hf⟩

theorem er_erase {xs : Array Value} {i : Nat} (hi : i < xs.size) : (xs.eraseIdxIfInBounds i).toList.map er = (xs.toList.map er).eraseIdx i := by
  have go : ∀ (l : List Value) (i : Nat), (l.eraseIdx i).map er = (l.map er).eraseIdx i := by
    intro l
    induction l with
    | nil => intro i; rfl
    | cons x r ih => intro i; cases i with
      | zero => rfl
      | succ i => simp [ih]
  unfold Array.eraseIdxIfInBounds
  rw [dif_pos hi, Array.toList_eraseIdx, go]

/-! methods of a list, of a text -/
theorem gm_list {name : Str} {id : String} {Q : Value → List Value → NS → Prop} (hm : (a, PO.list vs) ∈ ns) (slot : Slot "list" name id) (hty : typeOf (.builtin id) = Pure.pure (.type "method_descriptor")) (h : Q (.builtin id) [.ref a] ns) : Gm C n L ls ns (.ref a) name Q :=
  fun o' pl ho A h₀ s R G S => by
    obtain rfl := er_ref ho
    obtain ⟨xs, k, e, hx, _⟩ := getList S (.list hm)
    exact getMethod_builtin hx.typeIs PySem.F.plainAttrs_list slot hty (fun a e' => by cases e'; exact ⟨_, e, rfl⟩) ⟨ls, ns, S, .refl s, rfl, h⟩
theorem gm_str {x : Str} {name : Str} {id : String} {Q : Value → List Value → NS → Prop} (slot : Slot "str" name id) (hty : typeOf (.builtin id) = Pure.pure (.type "method_descriptor")) (h : Q (.builtin id) [S x] ns) : Gm C n L ls ns (S x) name Q :=
  fun o' pl ho A h₀ s R G Z => by
    obtain ⟨t, rfl⟩ := er_str ho
    exact getMethod_builtin (typeIs_str _ _ _) PySem.F.plainAttrs_str slot hty (fun a e' => by cases e') ⟨ls, ns, Z, .refl s, rfl, h⟩
section
variable {Q : Value → NS → Prop}
theorem map_er1 {vs' : List Value} {a : Value} (h : vs'.map er = [a]) : ∃ a', vs' = [a'] ∧ er a' = a := by
  match vs', h with
  | [x], h => exact ⟨x, rfl, by simpa using h⟩
theorem map_er2 {vs' : List Value} {a b : Value} (h : vs'.map er = [a, b]) : ∃ a' b', vs' = [a', b'] ∧ er a' = a ∧ er b' = b := by
  match vs', h with
  | [x, y], h => exact ⟨x, y, rfl, by simpa using h⟩
theorem cl_append {v : Value} (u : Put a (.list vs) (.list (vs ++ [v])) ns ns') (hz : vs.length ≤ sizeLine) (h : Q .none ns') : Cl C n L ls ns (.builtin "list.append") [.ref a, v] Q := fun vs' hvs A h₀ s R G S => by
  obtain ⟨a', v', rfl, ha, rfl⟩ := map_er2 hvs
  obtain rfl := er_ref ha
  obtain ⟨xs, k, e, hx, hv⟩ := getList S (.list u.mem)
  refine wpAny_call_entry slot_list_append hx.typeIs entry_list_append ?_ (args_list_append _ _)
  show wpAny _ _ (updateSeq a (·.push v') >>= fun _ => ret .none) _ _ s
  refine wpAny_bind (wpAny_updateSeq e rfl (wpAny_pure ⟨.none, rfl, .v (S.seq u e (·.push v') ?_) (.of _ s.toks) h⟩) (by rw [er_size hv]; exact hz) (by rw [Array.size_push, er_size hv]; exact Nat.succ_le_succ hz))
  rw [Array.toList_push, List.map_append, hv]; rfl
theorem cl_pop {v : Value} (u : Put a (.list (vs ++ [v])) (.list vs) ns ns') (hz : vs.length < sizeLine) (h : Q v ns') : Cl C n L ls ns (.builtin "list.pop") [.ref a] Q := fun vs' hvs A h₀ s R G S => by
  obtain ⟨a', rfl, ha⟩ := map_er1 hvs
  obtain rfl := er_ref ha
  obtain ⟨xs, k, e, hx, hv⟩ := getList S (.list u.mem)
  have hs := er_size hv
  rw [List.length_append, List.length_singleton] at hs
  have hy := er_get hv (k := vs.length) (v := v) (by simp)
  obtain ⟨y, hy, ey⟩ := hy
  refine call_meets PySem.F.slot_list_pop hx.typeIs PySem.F.entry_list_pop (PySem.F.args_list_pop_1 _) (PySem.MeetsSeq.list_pop_last a xs k y (by rw [hs]; exact hy) (by omega)) ⟨e, .v (S.seq u e _ ?_) (.of _ s.toks) (ey ▸ h)⟩
  rw [er_erase (by omega), hv, hs]
  simpa using kl_eraseL vs [] v
theorem cl_pop0 {v : Value} (u : Put a (.list (v :: vs)) (.list vs) ns ns') (hz : vs.length < sizeLine) (h : Q v ns') : Cl C n L ls ns (.builtin "list.pop") [.ref a, I 0] Q := fun vs' hvs A h₀ s R G S => by
  obtain ⟨a', i', rfl, ha, hi⟩ := map_er2 hvs
  obtain rfl := er_ref ha
  obtain ⟨t, rfl⟩ := er_int hi
  obtain ⟨xs, k, e, hx, hv⟩ := getList S (.list u.mem)
  have hs := er_size hv
  rw [List.length_cons] at hs
  obtain ⟨y, hy, ey⟩ := er_get hv (k := 0) (v := v) (by simp)
  refine call_meets PySem.F.slot_list_pop hx.typeIs PySem.F.entry_list_pop (PySem.F.args_list_pop_2 _ _) (PySem.MeetsSeq.list_pop_at a xs k 0 t 0 y (by decide) ?_ hy (by omega)) ⟨e, .v (S.seq u e _ ?_) (.of _ s.toks) (ey ▸ h)⟩
  · unfold seqIndex?; rw [hs]; simp
  · rw [er_erase (by omega), hv]; rfl
theorem set_item {i : Int} {v : Value} {Q : LS → NS → Prop} (u : Put a (.list vs) (.list (vs.set i.toNat v)) ns ns') (h0 : 0 ≤ i) (h1 : i < vs.length) (hz : vs.length ≤ sizeLine) (h : Q ls ns') :
    ∀ k v', er k = I i → er v' = v → Un C n L ls ns (setItem (.ref a) k v') Q := fun k v' hk hv' A h₀ s R G S => by
  obtain ⟨t, rfl⟩ := er_int hk
  obtain ⟨xs, k, e, hx, hv⟩ := getList S (.list u.mem)
  have hs := er_size hv
  rw [sizeLine_eq] at hz
  refine ki_setAt (n := k) e h0 (by omega) (by omega) ⟨ls, ns', S.seq u e _ ?_, .of _ s.toks, h⟩
  rw [Array.toList_setIfInBounds, List.map_set, hv, hv']
theorem set_itemR {i : Int} {v : Value} {Q : LS → NS → Prop} (u : Put a (.list vs) (.list (vs.set (i + vs.length).toNat v)) ns ns') (h0 : i < 0) (h1 : -(vs.length : Int) ≤ i) (hz : vs.length ≤ sizeLine) (h : Q ls ns') :
    ∀ k v', er k = I i → er v' = v → Un C n L ls ns (setItem (.ref a) k v') Q := fun k v' hk hv' A h₀ s R G S => by
  obtain ⟨t, rfl⟩ := er_int hk
  obtain ⟨xs, k, e, hx, hv⟩ := getList S (.list u.mem)
  have hs := er_size hv
  rw [sizeLine_eq] at hz
  refine ki_setBack (n := k) e h0 (by omega) (by omega) ⟨ls, ns', S.seq u e _ ?_, .of _ s.toks, h⟩
  rw [Array.toList_setIfInBounds, List.map_set, hv, hv', hs]
theorem getItem_listR {h₀ : Heap} {i : Int} {v : Value} {A : Around} {s : Shared} {t : Tok} (hm : HasL ns a vs) (h0 : i < 0) (h1 : -(vs.length : Int) ≤ i) (hz : vs.length ≤ sizeLine) (hv : vs[(i + vs.length).toNat]? = some v)
    (R : Rm n A) (G : Gd C h₀) (Z : St C h₀ L ls ns s.heap) (h : Q v ns) : wpAny C.M A (getItem (.ref a) (.int i t)) (Post C h₀ L s fun v l m => l = ls ∧ Q (er v) m) Bot s := by
  obtain ⟨xs, k, e, hx, hxs⟩ := getList Z hm
  obtain ⟨u, hu, eu⟩ := er_get hxs hv
  have hs := er_size hxs
  rw [sizeLine_eq] at hz
  exact wpAny_getItem_list_neg hx h0 (by omega) (by omega) (by rw [hs]; exact hu) (.v Z (.refl s) (eu ▸ h))
theorem sb_listR {i : Int} {v : Value} (hm : HasL ns a vs) (h0 : i < 0) (h1 : -(vs.length : Int) ≤ i) (hz : vs.length ≤ sizeLine) (hv : vs[(i + vs.length).toNat]? = some v) (h : Q v ns)
    (hs : ∀ o k, subscripted slice false o k = operate [o, k] (getItem o k)) : Sb C n env ls ns value slice (.ref a) (I i) Q := fun o k ho hk A h₀ s R G Z => by
  obtain rfl := er_ref ho; obtain ⟨t', rfl⟩ := er_int hk
  obtain ⟨xs, m, e, hx, hxs⟩ := getList Z hm
  exact tail_any hx.typeIs slot_list_getitem.lookup (getItem_listR hm h0 h1 hz hv R G Z h) (hs _ _)

/-! made lists and tuples -/
theorem ev_list {es : List Expr} (hp : (starEach es env).any (·.1) = false) (h : Ar C n env ls ns pos es fun vs m => vs.length ≤ sizeLine ∧ ∀ b, Q (.ref b) ((b, .list vs) :: m)) : Ev C n env ls ns (.List es pos) Q :=
  fun A h₀ s R G S => by
    show wpAny C.M A (do standAt pos; newList (← spliced (backTo pos (starEach es env)))) _ _ s
    exact wpAny_bind (wpAny_standAt (wpAny_bind (h.run R G S fun xs s1 m S1 k1 q => wpAny_newList (.v (S1.alloc (o := .list (xs.map er)) ⟨_, 0, rfl, by simp⟩) (k1.trans (.of _ s1.toks)) (q.2 _)) (by simpa using q.1))))
theorem ev_tup {es : List Expr} {k : Nat} (hp : (starEach es env).any (·.1) = false) (hne : es.isEmpty = false) (h : Ar C n env ls ns pos es fun vs m => vs.length ≤ sizeLine ∧ ∀ b, Q (.ref b) ((b, .tup vs) :: m)) : Ev C n env ls ns (.Tuple es k pos) Q :=
  fun A h₀ s R G S => by
    show wpAny C.M A (do standAt pos; newTuple (← spliced (backTo pos (starEach es env)))) _ _ s
    refine wpAny_bind (wpAny_standAt (wpAny_bind (h.run R G S fun xs s1 m S1 k1 q => ?_)))
    exact wpAny_newTuple (.v (S1.alloc (o := .tup (xs.map er)) ⟨_, 0, rfl, by simp⟩) (k1.trans (.of _ s1.toks)) (q.2 _)) 
theorem bin_add_list {b : Addr} (ha : HasL ns a vs) (hb : HasL ns b ws) (hz : vs.length + ws.length ≤ sizeLine) (h : ∀ c, Q (.ref c) ((c, .list (vs ++ ws)) :: ns)) : Bin C n L ls ns .Add (.ref a) (.ref b) Q := fun u v hu hv A h₀ s R G S => by
  obtain rfl := er_ref hu; obtain rfl := er_ref hv
  obtain ⟨xs, k, e, hx, hxs⟩ := getList S ha
  obtain ⟨ys, k', e', hy, hys⟩ := getList S hb
  refine PySem.P.add_list e e' (.v (S.alloc (o := .list (vs ++ ws)) ⟨_, 0, rfl, ?_⟩) (.of _ s.toks) (h _)) (by rw [er_size hxs, er_size hys]; exact hz)
  simp [hxs, hys]
end
end
theorem forStep {prog : Program} {w : World} {A : Around} {R : Result → Shared → Prop} {s : Shared} {env : Env} {target : Expr} {it : Value} {body : List Stmt}
    (h : wpAny (model prog w) A (pyNext it) (fun r s₁ => match r with
      | none => R (.ok .next) s₁
      | some v => wpAny (model prog w) A (letOwnedTupleGo target it v) (fun _ s₂ => wpAny (model prog w) A (assign target env v) (fun _ s₃ => wpAny (model prog w) A (execs body env) (fun f s₄ => match f with
          | .next | .cont => codeAny (model prog w) A (.forLoop target it body [] env) R s₄
          | .brk => R (.ok .next) s₄
          | .ret v => R (.ok (.ret v)) s₄) Bot s₃) Bot s₂) Bot s₁) Bot s) : codeAny (model prog w) A (.forLoop target it body [] env) R s := by
  refine codeAny_of_tree ?_
  show wpAny _ _ ((forTurn target it body [] env).onRaise (fun x => do noteFrame x env; theTreesLotGoes x)) _ _ s
  refine wpAny_noted ?_
  simp only [forTurn]
  refine wpAny_bind (wpAny_standAt (wpAny_bind (wpAny_onRaise (wpAny_mono h (fun r s₁ h₁ => ?_) fun _ _ h' => h'.elim))))
  cases r with
  | none => exact wpAny_pure ⟨rfl, codeAny_block (wpAny_execs_nil h₁)⟩
  | some v =>
    refine wpAny_bind (wpAny_mono h₁ (fun _ s₂ h₂ => ?_) fun _ _ h' => h'.elim)
    refine wpAny_bind (wpAny_mono h₂ (fun _ s₃ h₃ => wpAny_bind (wpAny_mono h₃ (fun f s₄ h₄ => ?_) fun _ _ h' => h'.elim)) fun _ _ h' => h'.elim)
    cases f with
    | next => exact wpAny_pure ⟨rfl, h₄⟩
    | cont => exact wpAny_pure ⟨rfl, h₄⟩
    | brk => exact wpAny_pure h₄
    | ret v => exact wpAny_pure h₄

def TgtLoc (env : Env) : Expr → Prop
  | .Name x _ => env.kindOf x = some .local
  | .Tuple [.Name x _, .Name y _] _ _ => env.kindOf x = some .local ∧ env.kindOf y = some .local
  | _ => False

/-- an iterator: what it binds turn by turn, the objects it stands on (fp), those it writes (wr) -/
structure Wk (C : Cx) (n : Nat) (target : Expr) (it : Value) (fp wr : List Addr) (vs : List LS) (W : Nat → Heap → Prop) : Prop where
  sub : ∀ b ∈ wr, b ∈ fp
  has : ∀ i h, W i h → ∀ b ∈ fp, ∃ o, h.get? b = some o
  frame : ∀ i h h', W i h → (∀ b ∈ fp, ∀ o, h.get? b = some o → h'.get? b = some o) → W i h'
  item : ∀ A h₀ s i bs ls ns env, Rm n A → Gd C h₀ → FnEnv env → TgtLoc env target → St C h₀ env.locals ls ns s.heap → vs[i]? = some bs → W i s.heap → (env.locals ∉ fp) → (∀ p ∈ ns, p.1 ∉ wr) → (∀ b ∈ wr, h₀.get? b = none) →
    wpAny C.M A (pyNext it) (fun r s₁ => ∃ v, r = some v ∧ wpAny C.M A (letOwnedTupleGo target it v) (fun _ s₂ => wpAny C.M A (assign target env v) (fun _ s₃ => Later s s₃ ∧ St C h₀ env.locals (bs ++ ls) ns s₃.heap ∧ W (i + 1) s₃.heap) Bot s₂) Bot s₁) Bot s
  done : ∀ A h₀ s ls ns L, Rm n A → Gd C h₀ → St C h₀ L ls ns s.heap → W vs.length s.heap → (L ∉ wr) → (∀ p ∈ ns, p.1 ∉ wr) → (∀ b ∈ wr, h₀.get? b = none) →
    wpAny C.M A (pyNext it) (fun r s₁ => r = none ∧ Later s s₁ ∧ St C h₀ L ls ns s₁.heap) Bot s
  self : ∀ i A s (Q : Value → Shared → Prop), A.handled = none → W i s.heap → Q it s → wpAny C.M A (pyIter it) Q Bot s

theorem St.wr {C : Cx} {h₀ h h' : Heap} {L : Addr} {ls : LS} {ns : NS} {wr : List Addr} (S : St C h₀ L ls ns h) (k : ∀ b o, b ∉ wr → h.get? b = some o → h'.get? b = some o) (hL : L ∉ wr) (hn : ∀ p ∈ ns, p.1 ∉ wr) (h0 : ∀ b ∈ wr, h₀.get? b = none) : St C h₀ L ls ns h' := by
  obtain ⟨m, F, hl⟩ := S.fr
  exact ⟨⟨m, F.at' fun o e => k _ o hL e, hl⟩, fun b o e => k b o (fun q => by rw [h0 b q] at e; cases e) (S.keep b o e), S.nL, fun p hp => let ⟨x, y, o, e, z⟩ := S.nw p hp; ⟨x, y, o, k _ _ (hn p hp) e, z⟩, S.nd⟩

/-- simple iterators, whose turns bind one name -/
theorem Wk.of {C : Cx} {n : Nat} {I : Addr} {fp wr : List Addr} {P : Nat → Value → Prop} {W : Nat → Heap → Prop} {x : Str} {px : Pos} {vs : List Value} (w : ∀ A : Around, A.handled = none → Walks C.prog C.w A I fp wr vs.length P W)
    (has : ∀ i h, W i h → ∀ b ∈ fp, ∃ o, h.get? b = some o) (hP : ∀ i v, P i v → vs[i]? = some (er v)) : Wk C n (.Name x px) (.ref I) fp wr (vs.map fun v => [(x, v)]) W where
  sub := (w { } rfl).sub
  has := has
  frame := (w { } rfl).frame
  item := fun A h₀ s i bs ls ns env R G he ht S hi hW hL hn h0 => by
    have w' := w A R.hh
    rw [List.getElem?_map] at hi
    obtain ⟨v₀, hv₀, rfl⟩ := Option.map_eq_some_iff.mp hi
    have hlt : i < vs.length := by
      rcases Nat.lt_or_ge i vs.length with q | q
      · exact q
      · rw [List.getElem?_eq_none q] at hv₀; cases hv₀
    refine w'.item i s _ _ hlt hW fun v h' tk hPv hW' hk => ⟨v, rfl, ?_⟩
    have ev : er v = v₀ := by have := hP i v hPv; rw [hv₀] at this; exact (Option.some.inj this).symm
    have S' : St C h₀ env.locals ls ns h' := S.wr hk (fun q => hL (w'.sub _ q)) hn h0
    refine wpAny_pure ?_
    obtain ⟨m, F, hl⟩ := id S'.fr
    refine assign_Name (wpAny_storeName_local ht F (fun h'' hn' hs => ⟨.of _ _, ?_, w'.frame _ _ _ hW' fun b hb o e => (hs.2 b fun q => hL (q ▸ hb)).trans e⟩) (by rw [he.k]; rfl))
    rw [← ev]
    exact S'.store (fun m' hm => by rw [ns_uniq hm F]; exact hn') hs
  done := fun A h₀ s ls ns L R G S hW hL hn h0 => by
    have w' := w A R.hh
    rw [List.length_map] at hW
    exact w'.done s _ _ hW fun h' tk hk => ⟨rfl, .of _ _, S.wr hk hL hn h0⟩
  self := fun i A s Q hh hW hQ => (w A hh).self i s Q _ hW hQ

/-- pyIter of a value: the iterator's bindings, what it stands on of the ledger (fz), the rest -/
def Itr (C : Cx) (n : Nat) (L : Addr) (ls : LS) (ns : NS) (target : Expr) (xv : Value) (Q : List LS → NS → NS → Prop) : Prop :=
  ∀ xv', er xv' = xv → ∀ A h₀ s, Rm n A → Gd C h₀ → St C h₀ L ls ns s.heap → wpAny C.M A (pyIter xv') (fun it s' => ∃ fp wr vs W fz ns', Wk C n target it fp wr vs W ∧ W 0 s'.heap ∧ L ∉ fp ∧ (∀ p ∈ ns', p.1 ∉ fp) ∧ (∀ p ∈ fz, p.1 ∈ fp ∧ p.1 ∉ wr) ∧
    (∀ b ∈ wr, h₀.get? b = none) ∧ St C h₀ L ls (fz ++ ns') s'.heap ∧ Later s s' ∧ Q vs fz ns') Bot s

/-- a for loop with its rest ahead -/
def Fl (C : Cx) (n : Nat) (env : Env) (ls : LS) (fz ns : NS) (target : Expr) (body : List Stmt) (rest : List LS) (Q : Flow → LS → NS → Prop) : Prop :=
  ∀ it fp wr vs W i A h₀ s s₀, Wk C n target it fp wr vs W → vs.drop i = rest → i ≤ vs.length → Rm n A → Gd C h₀ → St C h₀ env.locals ls (fz ++ ns) s.heap → W i s.heap → env.locals ∉ fp → (∀ p ∈ ns, p.1 ∉ fp) → (∀ p ∈ fz, p.1 ∈ fp ∧ p.1 ∉ wr) →
    (∀ b ∈ wr, h₀.get? b = none) → Later s₀ s → codeAny C.M A (.forLoop target it body [] env) (toFlow (C := C) h₀ env.locals s₀ Q) s

section
variable {C : Cx} {n : Nat} {L : Addr} {ls : LS} {fz ns : NS} {env : Env} {pos : Pos} {target : Expr} {body : List Stmt} {rest : List LS} {bs : LS} {Q : Flow → LS → NS → Prop}
theorem fl_nil (h : Q .next ls (fz ++ ns)) : Fl C n env ls fz ns target body [] Q := fun it fp wr vs W i A h₀ s s₀ w hd hi R G S hW hL hn hf h0 k => by
  have e : i = vs.length := by
    have := congrArg List.length hd
    rw [List.length_drop] at this
    simp at this
    omega
  subst e
  have hw : ∀ p ∈ fz ++ ns, p.1 ∉ wr := fun p hp => (List.mem_append.mp hp).elim (fun q => (hf p q).2) fun q z => hn p q (w.sub _ z)
  refine forStep (wpAny_mono (w.done A h₀ s ls (fz ++ ns) env.locals R G S hW (fun q => hL (w.sub _ q)) hw h0) (fun r s₁ q => ?_) fun _ _ e => e)
  obtain ⟨rfl, k1, S1⟩ := q
  exact ⟨ls, fz ++ ns, S1, k.trans k1, h⟩

/-- the frame and a part of the ledger go on over a base that holds all else -/
theorem St.over {h₀ h : Heap} (S : St C h₀ L ls (fz ++ ns) h) : ∃ g, (∀ b o, h₀.get? b = some o → g.get? b = some o) ∧ (∀ b o, g.get? b = some o → h.get? b = some o) ∧ St C g L ls ns h ∧
    (∀ b o, b ≠ L → (∀ p ∈ ns, p.1 ≠ b) → h.get? b = some o → g.get? b = some o) := by
  refine ⟨hideAll h (L :: ns.map (·.1)), fun b o e => ?_, fun b o e => of_hideAll _ e, ?_, fun b o h1 h2 e => ?_⟩
  · refine hideAll_get _ (S.keep b o e) fun q => ?_
    rcases List.mem_cons.mp q with rfl | q
    · rw [S.nL] at e; cases e
    · obtain ⟨p, hp, rfl⟩ := List.mem_map.mp q
      rw [(S.nw p (List.mem_append_right _ hp)).2.1] at e; cases e
  · obtain ⟨m, F, hl⟩ := S.fr
    refine ⟨⟨m, F, hl⟩, fun b o e => of_hideAll _ e, hideAll_none _ (.head _), fun p hp => ?_, ?_⟩
    · obtain ⟨a, _, o, e, z⟩ := S.nw p (List.mem_append_right _ hp)
      exact ⟨a, hideAll_none _ (.tail _ (List.mem_map_of_mem hp)), o, e, z⟩
    · have := S.nd; rw [List.map_append] at this; exact (List.nodup_append.mp this).2.1
  · refine hideAll_get _ e fun q => ?_
    rcases List.mem_cons.mp q with q | q
    · exact h1 q
    · obtain ⟨p, hp, q⟩ := List.mem_map.mp q
      exact h2 p hp q
theorem St.back {h₀ g h h' : Heap} {l : LS} {m : NS} (S : St C h₀ L ls (fz ++ ns) h) (up : ∀ b o, h₀.get? b = some o → g.get? b = some o) (all : ∀ b o, b ≠ L → (∀ p ∈ ns, p.1 ≠ b) → h.get? b = some o → g.get? b = some o)
    (S' : St C g L l m h') : St C h₀ L l (fz ++ m) h' := by
  have nd := S.nd
  rw [List.map_append] at nd
  obtain ⟨n1, n2, n3⟩ := List.nodup_append.mp nd
  have gz : ∀ p ∈ fz, ∀ o, h.get? p.1 = some o → g.get? p.1 = some o := fun p hp o e => all _ _ (S.nw p (List.mem_append_left _ hp)).1 (fun q hq e' => n3 _ (List.mem_map_of_mem hp) _ (List.mem_map_of_mem hq) e'.symm) e
  refine ⟨S'.fr, fun b o e => S'.keep _ _ (up b o e), S.nL, fun p hp => ?_, ?_⟩
  · rcases List.mem_append.mp hp with hp | hp
    · obtain ⟨a, b, o, e, z⟩ := S.nw p (List.mem_append_left _ hp)
      exact ⟨a, b, o, S'.keep _ _ (gz p hp o e), z⟩
    · obtain ⟨a, b, o, e, z⟩ := S'.nw p hp
      refine ⟨a, ?_, o, e, z⟩
      cases q : h₀.get? p.1 with
      | none => rfl
      | some x => rw [up _ _ q] at b; cases b
  · rw [List.map_append]
    refine List.nodup_append.mpr ⟨n1, S'.nd, fun a ha b hb e => ?_⟩
    subst e
    obtain ⟨p, hp, rfl⟩ := List.mem_map.mp ha
    obtain ⟨q, hq, e⟩ := List.mem_map.mp hb
    obtain ⟨_, _, o, eo, _⟩ := S.nw p (List.mem_append_left _ hp)
    obtain ⟨_, z, _⟩ := S'.nw q hq
    rw [e, gz p hp o eo] at z; cases z
theorem fl_cons (he : FnEnv env) (ht : TgtLoc env target) (h : Ex C n env (bs ++ ls) ns body (loopEnd (fun l m => Fl C n env l fz m target body rest Q) (fun f l m => Q f l (fz ++ m)))) : Fl C n env ls fz ns target body (bs :: rest) Q :=
  fun it fp wr vs W i A h₀ s s₀ w hd hi R G S hW hL hn hf h0 k => by
  have hv : vs[i]? = some bs := by
    have : (vs.drop i)[0]? = some bs := by rw [hd]; rfl
    simpa using this
  have hlt : i < vs.length := by
    rcases Nat.lt_or_ge i vs.length with q | q
    · exact q
    · rw [List.getElem?_eq_none q] at hv; cases hv
  have hw : ∀ p ∈ fz ++ ns, p.1 ∉ wr := fun p hp => (List.mem_append.mp hp).elim (fun q => (hf p q).2) fun q z => hn p q (w.sub _ z)
  refine forStep (wpAny_mono (w.item A h₀ s i bs ls (fz ++ ns) env R G he ht S hv hW hL hw h0) (fun r s₁ q => ?_) fun _ _ e => e)
  obtain ⟨v, rfl, q⟩ := q
  refine wpAny_mono q (fun _ s₂ q => wpAny_mono q (fun _ s₃ q => ?_) fun _ _ e => e) fun _ _ e => e
  obtain ⟨k3, S3, W3⟩ := q
  obtain ⟨g, up, dn, Sg, all⟩ := S3.over
  have gfp : ∀ b ∈ fp, ∀ o, s₃.heap.get? b = some o → g.get? b = some o := fun b hb o e => all b o (fun q => hL (q ▸ hb)) (fun p hp q => hn p hp (q ▸ hb)) e
  refine T.run h R (G.keeps up) Sg fun f s4 l m S4 k4 q4 => ?_
  have go : Fl C n env l fz m target body rest Q → codeAny C.M A (.forLoop target it body [] env) (toFlow (C := C) h₀ env.locals s₀ Q) s4 := fun q4 => by
    refine q4 it fp wr vs W (i + 1) A h₀ s4 s₀ w (by rw [← List.drop_drop, hd]; rfl) hlt R G (S3.back up all S4) (w.frame _ _ _ W3 fun b hb o e => S4.keep _ _ (gfp b hb o e)) hL (fun p hp q => ?_) hf h0 (k.trans (k3.trans k4))
    obtain ⟨o, eo⟩ := w.has _ _ W3 _ q
    have := (S4.nw p hp).2.1
    rw [gfp _ q o eo] at this; cases this
  cases f with
  | next => exact go q4
  | cont => exact go q4
  | brk => exact ⟨l, fz ++ m, S3.back up all S4, k.trans (k3.trans k4), q4⟩
  | ret v => exact ⟨l, fz ++ m, S3.back up all S4, k.trans (k3.trans k4), q4⟩
theorem x_for {iter : Expr} (h : Ev C n env ls ns iter fun xv m => Itr C n env.locals ls m target xv fun vs fz m' => Fl C n env ls fz m' target body vs Q)
    (hs : ∀ x, foldedSetIterable iter env x = Pure.pure x := by intro _; rfl) : Ex1 C n env ls ns (.For target iter body [] pos) Q :=
  fun A h₀ s R G S => wpAny_For (h.run R G S fun xv s1 m S1 k1 q => wpAny_mono (q xv rfl A h₀ s1 R G S1) (fun it s2 q => by
    obtain ⟨fp, wr, vs, W, fz, ns', w, hW, hL, hn, hf, h0, S2, k2, q⟩ := q
    refine codeAny_mono (q it fp wr vs W 0 A h₀ s2 s w rfl (Nat.zero_le _) R G S2 hW hL hn hf h0 (k1.trans k2)) fun r s' z => ?_
    cases r with
    | ok f => exact z
    | error e => exact z.elim) fun _ _ e => e) hs
end
inductive Sel (a : Addr) (o : PO) : NS → NS → Prop
  | hd {r} : Sel a o ((a, o) :: r) r
  | tl {p r r'} : Sel a o r r' → Sel a o (p :: r) (p :: r')
theorem Sel.perm {a : Addr} {o : PO} {ns ns' : NS} (u : Sel a o ns ns') : ((a, o) :: ns').Perm ns := by
  induction u with
  | hd => exact .refl _
  | tl _ ih => exact (List.Perm.swap _ _ _).trans (ih.cons _)
theorem Sel.mem {a : Addr} {o : PO} {ns ns' : NS} (u : Sel a o ns ns') : (a, o) ∈ ns := u.perm.subset (.head _)

section
variable {C : Cx} {n : Nat} {L : Addr} {ls : LS} {ns ns' : NS} {env : Env} {pos p px : Pos} {value slice : Expr} {a b : Addr} {vs ws : List Value} {x y : Str}

/-! sources of loops -/
section
variable {Q : List LS → NS → NS → Prop}
theorem itr_list (u : Sel a (.list vs) ns ns') (h : Q (vs.map fun v => [(x, v)]) [(a, .list vs)] ns') : Itr C n L ls ns (.Name x px) (.ref a) Q := fun xv' hx A h₀ s R G S => by
  obtain rfl := er_ref hx
  have S := S.perm u.perm
  obtain ⟨xs, k, e, hxs, hv⟩ := getList S (.list (.head _))
  have hlt : a < s.heap.objs.size := Heap.lt_size e
  have hlen : xs.size = vs.length := er_size hv
  have up : ∀ b o, s.heap.get? b = some o → (s.heap.push { cls := .type "list_iterator", data := .fields #[.ref a, .int 0 0] }).get? b = some o := fun b o e => Heap.get?_push_of_some _ e
  refine wpAny_pyIter_list hxs ⟨[s.heap.objs.size, a], [s.heap.objs.size], _, fun i h => h.IsListIter s.heap.objs.size a i ∧ h.IsList a xs, [(a, .list vs)], ns', ?_, ⟨⟨_, Heap.get?_push_size _ rfl, rfl, rfl⟩, hxs.push _⟩, ?_, ?_, ?_, ?_, S.ext up, .of _ s.toks, h⟩
  · refine Wk.of (P := fun i v => xs[i]? = some v) (fun A hh => hlen ▸ Walks.list hh _ a (Nat.ne_of_lt hlt) xs) (fun i h st b hb => ?_) fun i v hP => ?_
    · rcases List.mem_cons.mp hb with rfl | hb
      · obtain ⟨⟨o, e, _⟩, _⟩ := st; exact ⟨o, e⟩
      · obtain ⟨_, o, e, _⟩ := st; rw [List.mem_singleton.mp hb]; exact ⟨o, e⟩
    · rw [← hv, List.getElem?_map, Array.getElem?_toList, hP]; rfl
  · intro q
    rcases List.mem_cons.mp q with q | q
    · exact Nat.ne_of_lt S.ltL q
    · exact (S.nw _ (.head _)).1 (List.mem_singleton.mp q).symm
  · intro p hp q
    rcases List.mem_cons.mp q with q | q
    · obtain ⟨_, _, o, e, _⟩ := S.nw p (.tail _ hp)
      exact Nat.ne_of_lt (Heap.lt_size e) q
    · have := S.nd
      rw [List.map_cons, List.nodup_cons] at this
      exact this.1 (List.mem_map.mpr ⟨p, hp, List.mem_singleton.mp q⟩)
  · intro p hp
    rw [List.mem_singleton.mp hp]
    exact ⟨.tail _ (.head _), fun q => Nat.ne_of_lt hlt (List.mem_singleton.mp q)⟩
  · intro b hb
    rw [List.mem_singleton.mp hb]
    cases q : h₀.get? s.heap.objs.size with
    | none => rfl
    | some o => exact absurd (Heap.lt_size (S.keep _ _ q)) (Nat.lt_irrefl _)
abbrev rangeObj (a b : Int) (t u v : Tok) : Obj := { cls := .type "range", dict := none, data := .fields #[.int a t, .int b u, .int 1 v], slots := #[] }
/-- what range(i, j) binds -/
def rangeL (x : Str) (i j : Int) : List LS := (List.range (j - i).toNat).map fun k : Nat => [(x, I (i + (k : Int)))]
theorem itr_range {i j : Int} {t u v : Tok} (w : Sel a (.raw (rangeObj i j t u v)) ns ns') (hi : -1000000000 ≤ i ∧ i ≤ 1000000000) (hj : -1000000000 ≤ j ∧ j ≤ 1000000000) (h : Q (rangeL x i j) [] ns') : Itr C n L ls ns (.Name x px) (.ref a) Q := fun xv' hx A h₀ s R G S => by
  obtain rfl := er_ref hx
  obtain ⟨o, e, ho⟩ := S.get w.mem
  obtain rfl : o = _ := ho
  have S := (S.perm w.perm).sub (List.sublist_cons_self _ _)
  have hsz : Builtin.Range.rangeSize i j 1 = ((j - i).toNat : Int) := by rw [rangeSize_one]; split <;> omega
  have up : ∀ b o, s.heap.get? b = some o → (s.heap.push { cls := .type "range_iterator", data := .fields #[rawInt i, rawInt (Builtin.Range.rangeSize i j 1), rawInt 1] }).get? b = some o := fun b o e => Heap.get?_push_of_some _ e
  refine wpAny_pyIter_range e (small_one (by omega) (by omega) (by omega) (by omega)) ⟨[s.heap.objs.size], [s.heap.objs.size], _, fun k h => IsRangeIter h s.heap.objs.size (i + (k : Nat) * 1) (((j - i).toNat : Int) - (k : Nat)) 1, [], ns', ?_, ?_, ?_, ?_, ?_, ?_, S.ext up, .of _ s.toks, h⟩
  · have e : rangeL x i j = ((List.range (j - i).toNat).map fun k : Nat => I (i + (k : Int))).map fun v => [(x, v)] := by unfold rangeL; rw [List.map_map]; rfl
    rw [e]
    refine Wk.of (P := fun k v => k < (j - i).toNat ∧ ∃ t, v = .int (i + k * 1) t) (fun A hh => ?_) (fun k h st b hb => ⟨_, (List.mem_singleton.mp hb) ▸ st⟩) fun k v hP => ?_
    · have W := Walks.range (prog := C.prog) (w := C.w) hh s.heap.objs.size i 1 (j - i).toNat
      rw [List.length_map, List.length_range]
      exact ⟨W.sub, W.frame, fun k s Q E hk st hQ => W.item k s Q E hk st fun v h' tk hv => hQ v h' tk ⟨hk, hv⟩, W.done, W.self⟩
    · obtain ⟨hk, t, rfl⟩ := hP
      rw [List.getElem?_map, List.getElem?_range hk]
      simp [er]
  · show IsRangeIter _ _ _ _ _
    have := Heap.get?_push_size (h := s.heap) (o := { cls := .type "range_iterator", data := .fields #[rawInt i, rawInt (Builtin.Range.rangeSize i j 1), rawInt 1] }) rfl
    rw [hsz] at this
    simpa [hsz] using this
  · intro q; exact Nat.ne_of_lt S.ltL (List.mem_singleton.mp q)
  · intro p hp q
    obtain ⟨_, _, o, e, _⟩ := S.nw p hp
    exact Nat.ne_of_lt (Heap.lt_size e) (List.mem_singleton.mp q)
  · intro p hp; cases hp
  · intro b hb
    rw [List.mem_singleton.mp hb]
    cases q : h₀.get? s.heap.objs.size with
    | none => rfl
    | some o => exact absurd (Heap.lt_size (S.keep _ _ q)) (Nat.lt_irrefl _)
/-- the signs of a text, one by one -/
def signsL (x : Str) (t : Str) : List LS := t.cps.toList.map fun c => [(x, S ⟨#[c]⟩)]
theorem itr_str {t : Str} (h : Q (signsL x t) [] ns) : Itr C n L ls ns (.Name x px) (S t) Q := fun xv' hx A h₀ s R G Z => by
  obtain ⟨tk, rfl⟩ := er_str hx
  have go : ∀ (o : Obj) (ty : String), o.isFreed = false → (∀ A : Around, A.handled = none → Walks C.prog C.w A s.heap.objs.size [s.heap.objs.size] [s.heap.objs.size] t.cps.size (SignAt t) (fun i h => h.IsStrIter s.heap.objs.size ty t tk i)) →
      (s.heap.push o).IsStrIter s.heap.objs.size ty t tk 0 → (∃ fp wr vs W fz ns', Wk C n (.Name x px) (.ref s.heap.objs.size) fp wr vs W ∧ W 0 (s.heap.push o) ∧ L ∉ fp ∧ (∀ p ∈ ns', p.1 ∉ fp) ∧ (∀ p ∈ fz, p.1 ∈ fp ∧ p.1 ∉ wr) ∧
        (∀ b ∈ wr, h₀.get? b = none) ∧ St C h₀ L ls (fz ++ ns') (s.heap.push o) ∧ Later s { s with heap := s.heap.push o } ∧ Q vs fz ns') := fun o ty hf W st => by
    refine ⟨[s.heap.objs.size], [s.heap.objs.size], _, fun i h => h.IsStrIter s.heap.objs.size ty t tk i, [], ns, ?_, st, ?_, ?_, ?_, ?_, Z.ext fun _ _ e => Heap.get?_push_of_some _ e, .of _ s.toks, h⟩
    · have e : signsL x t = (t.cps.toList.map fun c => S ⟨#[c]⟩).map fun v => [(x, v)] := by unfold signsL; rw [List.map_map]; rfl
      rw [e]
      refine Wk.of (P := SignAt t) (fun A hh => ?_) (fun k h st b hb => ?_) fun k v hP => ?_
      · rw [List.length_map, Array.length_toList]; exact W A hh
      · obtain ⟨o, e, _⟩ := st; exact ⟨o, (List.mem_singleton.mp hb) ▸ e⟩
      · obtain ⟨c, u, hc, rfl⟩ := hP
        rw [List.getElem?_map, Array.getElem?_toList, hc]; rfl
    · intro q; exact Nat.ne_of_lt Z.ltL (List.mem_singleton.mp q)
    · intro p hp q
      obtain ⟨_, _, o, e, _⟩ := Z.nw p hp
      exact Nat.ne_of_lt (Heap.lt_size e) (List.mem_singleton.mp q)
    · intro p hp; cases hp
    · intro b hb
      rw [List.mem_singleton.mp hb]
      cases q : h₀.get? s.heap.objs.size with
      | none => rfl
      | some o => exact absurd (Heap.lt_size (Z.keep _ _ q)) (Nat.lt_irrefl _)
  cases ha : t.cps.all (· < 128)
  · exact wpAny_pyIter_wide ha (go _ _ rfl (fun A' hA => Walks.strWide hA _ t tk) ⟨_, Heap.get?_push_size _ rfl, rfl, rfl⟩)
  · exact wpAny_pyIter_ascii ha (go _ _ rfl (fun A' hA => Walks.strAscii hA _ t tk) ⟨_, Heap.get?_push_size _ rfl, rfl, rfl⟩)
end

/-! unpacking -/
def AsL (C : Cx) (n : Nat) (env : Env) : LS → NS → List Expr → List Value → (LS → NS → Prop) → Prop
  | ls, ns, [], [], Q => Q ls ns
  | ls, ns, e :: es, v :: vs, Q => As C n env ls ns e v fun l m => AsL C n env l m es vs Q
  | _, _, _, _, _ => False
theorem asL_run {Q : LS → NS → Prop} : ∀ {es : List Expr} {vs : List Value} {ls : LS} {ns : NS} {xs : List Value}, AsL C n env ls ns es vs Q → xs.map er = vs → Un C n env.locals ls ns (assignInOrder (es.map fun e => assign e env) xs) Q
  | [], [], ls, ns, xs, h, hx => fun A h₀ s R G S => wpAny_pure ⟨ls, ns, S, .refl s, h⟩
  | [], _ :: _, _, _, _, h, _ => h.elim
  | _ :: _, [], _, _, _, h, _ => h.elim
  | e :: es, v :: vs, ls, ns, xs, h, hx => fun A h₀ s R G S => by
    match xs, hx with
    | x :: xs, hx =>
      simp only [List.map_cons, List.cons.injEq] at hx
      exact assignInOrder_cons (T.run (h x hx.1) R G S fun _ s1 l m S1 k1 q => T.next (asL_run q hx.2) R G S1 k1)
theorem as_tup {es : List Expr} {k : Nat} {Q : LS → NS → Prop} (hm : (a, PO.tup vs) ∈ ns) (hl : es.length = vs.length) (he : assignEach es env = es.map fun e => (false, assign e env)) (h : AsL C n env ls ns es vs Q) : As C n env ls ns (.Tuple es k p) (.ref a) Q :=
  fun v' hv A h₀ s R G S => by
    obtain rfl := er_ref hv
    obtain ⟨xs, k', e, hxs, hvs⟩ := getTup S hm
    rw [assign_Tuple]
    unfold unpack
    rw [he]
    have e1 : (es.map fun e => (false, assign e env)).findIdx? (·.1) = none := by
      rw [List.findIdx?_eq_none_iff]; intro q hq; obtain ⟨e, _, rfl⟩ := List.mem_map.mp hq; rfl
    rw [e1, List.length_map, hl, ← er_size hvs, List.map_map]
    refine wpAny_bind (wpAny_standAt (wpAny_bind (wpAny_holding (unpackItems_tuple R.hh hxs fun h' hk => ?_))))
    have S' : St C h₀ env.locals ls ns h' := S.ext fun b o e => hk b o (Nat.ne_of_lt (Heap.lt_size e)) e
    exact T.next (asL_run h hvs) R G (s := { s with heap := h' }) S' (.of _ s.toks)
theorem x_swap {u v : Str} {pu pv tp : Pos} {k : Nat} {e : Expr} {Q : Flow → LS → NS → Prop} (he : FnEnv env) (hu : env.kindOf u = some .local) (hv : env.kindOf v = some .local)
    (h : Ev C n env ls ns e fun r m => ∃ t x y, r = .ref t ∧ (t, PO.tup [x, y]) ∈ m ∧ Q .next ((u, x) :: (v, y) :: ls) m)
    (hs : swapsWithSole [.Tuple [.Name u pu, .Name v pv] k tp] e pos.line env = Pure.pure false := by rfl) (hw : swappedStores [.Tuple [.Name u pu, .Name v pv] k tp] e env = Pure.pure (some [u, v]) := by rfl) :
    Ex1 C n env ls ns (.Assign [.Tuple [.Name u pu, .Name v pv] k tp] e pos) Q := fun A h₀ s R G S => by
  refine Assign_Tuple_swapped (names := [u, v]) (h.run R G S fun r s1 m S1 k1 q => ?_) hs hw
  obtain ⟨t, x, y, hr, hm, q⟩ := q
  obtain rfl := er_ref hr
  obtain ⟨xs, k', e, hxs, hvs⟩ := getTup S1 hm
  have hsz := er_size hvs
  show wpAny C.M A (unpackItems (.ref t) 2 none) _ _ s1
  have e2 : 2 = xs.size := hsz.symm
  rw [e2]
  refine unpackItems_tuple R.hh hxs fun h' hk => ?_
  have S2 : St C h₀ env.locals ls m h' := S1.ext fun b o e => hk b o (Nat.ne_of_lt (Heap.lt_size e)) e
  generalize xs.toList = zs at hvs
  obtain ⟨x', y', rfl, rfl, rfl⟩ := map_er2 hvs
  obtain ⟨m1, F1, _⟩ := id S2.fr
  refine assignInOrder_cons (wpAny_bindName (wpAny_storeName_local hv F1 (fun h'' hn hs => ?_) (by rw [he.k]; rfl)))
  have S3 := S2.store (x := v) (v := y') (fun m' hm => by rw [ns_uniq hm F1]; exact hn) hs
  obtain ⟨m2, F2, _⟩ := id S3.fr
  refine assignInOrder_cons (wpAny_bindName (wpAny_storeName_local hu F2 (fun h3 hn3 hs3 => assignInOrder_nil ⟨_, m, S3.store (fun m' hm => by rw [ns_uniq hm F2]; exact hn3) hs3, ?_, q⟩) (by rw [he.k]; rfl)))
  exact k1.trans ((Later.of (s := s1) h' s1.toks).trans (.of _ _))
end
theorem compStep {prog : Program} {w : World} {A : Around} {R : Result → Shared → Prop} {s : Shared} {env : Env} {elt target iter : Expr} {ifs : List Expr} {scope : Scope} {pos : Pos} {it acc : Value}
    (h : wpAny (model prog w) A (pyNext it) (fun r s₁ => match r with
      | none => R (.ok .next) s₁
      | some v => wpAny (model prog w) A (letOwnedTupleGo target it v) (fun _ s₂ => wpAny (model prog w) A (assign target env v) (fun _ s₃ =>
          wpAny (model prog w) A (forIn ifs true fun c r => if r = true then do let ok ← isTrue c env (eval c env); pure (ForInStep.yield ok) else pure (ForInStep.yield r)) (fun ok s₄ =>
            if ok = true then wpAny (model prog w) A (eval elt env) (fun x s₅ =>
              wpAny (model prog w) A (call (.builtin "list.append") [acc, x]) (fun _ s₆ => codeAny (model prog w) A (.compLoop (.ListComp elt [⟨target, iter, ifs, 0⟩] scope pos) 0 it acc env) R s₆) Bot s₅) Bot s₄
            else codeAny (model prog w) A (.compLoop (.ListComp elt [⟨target, iter, ifs, 0⟩] scope pos) 0 it acc env) R s₄) Bot s₃) Bot s₂) Bot s₁) Bot s) :
    codeAny (model prog w) A (.compLoop (.ListComp elt [⟨target, iter, ifs, 0⟩] scope pos) 0 it acc env) R s := by
  refine codeAny_of_tree ?_
  show wpAny _ _ ((compTurn (.ListComp elt [⟨target, iter, ifs, 0⟩] scope pos) 0 it acc env).onRaise (fun x => do noteFrame x env; theTreesLotGoes x)) _ _ s
  refine wpAny_noted ?_
  rw [compTurn_list]
  refine wpAny_bind (wpAny_standAt (wpAny_bind (wpAny_mono h (fun r s₁ h₁ => ?_) fun _ _ h' => h'.elim)))
  cases r with
  | none => exact wpAny_pure h₁
  | some v =>
    refine wpAny_bind (wpAny_mono h₁ (fun _ s₂ h₂ => ?_) fun _ _ h' => h'.elim)
    refine wpAny_bind (wpAny_mono h₂ (fun _ s₃ h₃ => wpAny_bind (wpAny_mono h₃ (fun ok s₄ h₄ => ?_) fun _ _ h' => h'.elim)) fun _ _ h' => h'.elim)
    cases ok with
    | false => exact wpAny_pure ⟨rfl, h₄⟩
    | true =>
      exact wpAny_bind (wpAny_bind (wpAny_mono h₄ (fun x s₅ h₅ => wpAny_bind (wpAny_mono h₅ (fun _ s₆ h₆ => wpAny_pure (wpAny_pure ⟨rfl, h₆⟩)) fun _ _ h' => h'.elim)) fun _ _ h' => h'.elim))

section
variable {C : Cx} {n : Nat} {L : Addr} {ls : LS} {ns ns' fz : NS} {env : Env} {pos p px : Pos} {D : Addr} {vs ys : List Value} {elt target iter : Expr} {ifs : List Expr} {scope : Scope} {rest : List LS} {bs : LS}

/-- a comprehension's loop, ys made, its rest ahead -/
def Ml (C : Cx) (n : Nat) (env : Env) (ns : NS) (ys : List Value) (elt target iter : Expr) (ifs : List Expr) (scope : Scope) (pos : Pos) (rest : List LS) (Q : List Value → NS → Prop) : Prop :=
  ∀ it fp wr vs W i D A g s, Wk C n target it fp wr vs W → vs.drop i = rest → i ≤ vs.length → Rm n A → Gd C g → St C g env.locals [] ((D, .list ys) :: ns) s.heap → W i s.heap → env.locals ∉ fp → D ∉ fp → (∀ p ∈ ns, p.1 ∉ fp) →
    (∀ b ∈ wr, g.get? b = none) → codeAny C.M A (.compLoop (.ListComp elt [⟨target, iter, ifs, 0⟩] scope pos) 0 it (.ref D) env) (fun r s' => r = .ok .next ∧ ∃ ys' ns', St C g env.locals [] ((D, .list ys') :: ns') s'.heap ∧ Later s s' ∧ Q ys' ns') s
section
variable {Q : List Value → NS → Prop}
theorem ml_nil (h : Q ys ns) : Ml C n env ns ys elt target iter ifs scope pos [] Q := fun it fp wr vs W i D A g s w hd hi R G S hW hL hD hn h0 => by
  have e : i = vs.length := by
    have := congrArg List.length hd
    rw [List.length_drop] at this
    simp at this
    omega
  subst e
  have hw : ∀ p ∈ (D, PO.list ys) :: ns, p.1 ∉ wr := fun p hp q => by
    rcases List.mem_cons.mp hp with rfl | hp
    · exact hD (w.sub _ q)
    · exact hn p hp (w.sub _ q)
  refine compStep (wpAny_mono (w.done A g s [] _ env.locals R G S hW (fun q => hL (w.sub _ q)) hw h0) (fun r s₁ q => ?_) fun _ _ e => e)
  obtain ⟨rfl, k1, S1⟩ := q
  exact ⟨rfl, ys, ns, S1, k1, h⟩
/-- one turn: what the tests and the element make, told as one -/
theorem ml_turn (he : FnEnv env) (ht : TgtLoc env target) (hz : ys.length ≤ sizeLine)
    (h : ∀ A g s, Rm n A → Gd C g → St C g env.locals bs ns s.heap → wpAny C.M A (forIn ifs true fun c r => if r = true then do let ok ← isTrue c env (eval c env); Pure.pure (ForInStep.yield ok) else Pure.pure (ForInStep.yield r)) (fun ok s₁ =>
      if ok = true then wpAny C.M A (eval elt env) (fun x s₂ => ∃ l m, St C g env.locals l m s₂.heap ∧ Later s s₂ ∧ Ml C n env m (ys ++ [er x]) elt target iter ifs scope pos rest Q) Bot s₁
      else ∃ l m, St C g env.locals l m s₁.heap ∧ Later s s₁ ∧ Ml C n env m ys elt target iter ifs scope pos rest Q) Bot s) : Ml C n env ns ys elt target iter ifs scope pos (bs :: rest) Q :=
  fun it fp wr vs W i D A g s w hd hi R G S hW hL hD hn h0 => by
  have hv : vs[i]? = some bs := by
    have : (vs.drop i)[0]? = some bs := by rw [hd]; rfl
    simpa using this
  have hlt : i < vs.length := by
    rcases Nat.lt_or_ge i vs.length with q | q
    · exact q
    · rw [List.getElem?_eq_none q] at hv; cases hv
  have hw : ∀ p ∈ (D, PO.list ys) :: ns, p.1 ∉ wr := fun p hp q => by
    rcases List.mem_cons.mp hp with rfl | hp
    · exact hD (w.sub _ q)
    · exact hn p hp (w.sub _ q)
  refine compStep (wpAny_mono (w.item A g s i bs [] ((D, .list ys) :: ns) env R G he ht S hv hW hL hw h0) (fun r s₁ q => ?_) fun _ _ e => e)
  obtain ⟨v, rfl, q⟩ := q
  refine wpAny_mono q (fun _ s₂ q => wpAny_mono q (fun _ s₃ q => ?_) fun _ _ e => e) fun _ _ e => e
  obtain ⟨k3, S3, W3⟩ := q
  rw [List.append_nil] at S3
  obtain ⟨g2, up, dn, Sg, all⟩ := St.over (fz := [(D, .list ys)]) S3
  have gfp : ∀ b ∈ fp, ∀ o, s₃.heap.get? b = some o → g2.get? b = some o := fun b hb o e => all b o (fun q => hL (q ▸ hb)) (fun p hp q => hn p hp (q ▸ hb)) e
  have go : ∀ {s4 : Shared} {l m ys'}, St C g2 env.locals l m s4.heap → Later s₃ s4 → ∀ s5, Later s4 s5 → St C g env.locals [] ((D, .list ys') :: m) s5.heap → W (i + 1) s5.heap → Ml C n env m ys' elt target iter ifs scope pos rest Q →
      codeAny C.M A (.compLoop (.ListComp elt [⟨target, iter, ifs, 0⟩] scope pos) 0 it (.ref D) env) (fun r s' => r = .ok .next ∧ ∃ ys' ns', St C g env.locals [] ((D, .list ys') :: ns') s'.heap ∧ Later s s' ∧ Q ys' ns') s5 := by
    intro s4 l m ys' S4 k4 s5 k5 S5 W5 q
    refine codeAny_mono (q it fp wr vs W (i + 1) D A g s5 w (by rw [← List.drop_drop, hd]; rfl) hlt R G S5 W5 hL hD (fun p hp q => ?_) h0) fun r s' z => ?_
    · obtain ⟨o, eo⟩ := w.has _ _ W3 _ q
      have := (S4.nw p hp).2.1
      rw [gfp _ q o eo] at this; cases this
    · obtain ⟨rfl, ys'', ns', S6, k6, z⟩ := z
      exact ⟨rfl, ys'', ns', S6, k3.trans (k4.trans (k5.trans k6)), z⟩
  have Wat : ∀ {l m} {s4 : Shared}, St C g2 env.locals l m s4.heap → W (i + 1) s4.heap := fun S4 => w.frame _ _ _ W3 fun b hb o e => S4.keep _ _ (gfp b hb o e)
  refine wpAny_mono (h A g2 s₃ R (G.keeps up) Sg) (fun ok s4 q4 => ?_) fun _ _ e => e
  cases ok with
  | false =>
    simp only [Bool.false_eq_true, if_false] at q4 ⊢
    obtain ⟨l, m, S4, k4, q4⟩ := q4
    exact go S4 k4 s4 (.refl _) ((S3.back (fz := [(D, .list ys)]) up all S4).loc (by simp)) (Wat S4) q4
  | true =>
    simp only [if_true] at q4 ⊢
    refine wpAny_mono q4 (fun x s5 q5 => ?_) fun _ _ e => e
    obtain ⟨l, m, S5, k5, q5⟩ := q5
    have S5' := S3.back (fz := [(D, .list ys)]) up all S5
    obtain ⟨g3, up3, dn3, Sg3, all3⟩ := St.over (fz := []) S5'
    have W5 : W (i + 1) s5.heap := Wat S5
    have nfp : ∀ b ∈ fp, ∀ p ∈ (D, PO.list ys) :: m, p.1 ≠ b := fun b hb p hp q => by
      rcases List.mem_cons.mp hp with rfl | hp
      · exact hD ((show D = b from q) ▸ hb)
      · obtain ⟨o, eo⟩ := w.has _ _ W3 _ hb
        have := (S5.nw p hp).2.1
        rw [q, gfp _ hb o eo] at this; cases this
    refine (cl_append (C := C) (n := n) (L := env.locals) (ls := l) (ns := (D, .list ys) :: m) (ns' := (D, .list (ys ++ [er x])) :: m) (v := er x) (Q := fun _ m' => m' = (D, .list (ys ++ [er x])) :: m) Put.hd hz rfl
      [.ref D, x] rfl).run R (G.keeps up3) Sg3 fun _ s6 m6 S6 k6 e6 => ?_
    subst e6
    exact go S5 k5 s6 k6 ((S5'.back (fz := []) up3 all3 S6).loc (by simp)) (w.frame _ _ _ W5 fun b hb o e => S6.keep _ _ (all3 b o (fun q => hL (q ▸ hb)) (nfp b hb) e)) q5
theorem ml_cons (he : FnEnv env) (ht : TgtLoc env target) (hz : ys.length ≤ sizeLine) (h : Ev C n env bs ns elt fun v m => Ml C n env m (ys ++ [v]) elt target iter [] scope pos rest Q) : Ml C n env ns ys elt target iter [] scope pos (bs :: rest) Q :=
  ml_turn he ht hz fun A g s R G S => wpAny_tests_nil (by
    simp only [if_true]
    exact h.run R G S fun v s1 m S1 k1 q => ⟨bs, m, S1, k1, q⟩)
theorem ml_if {c : Expr} (he : FnEnv env) (ht : TgtLoc env target) (hz : ys.length ≤ sizeLine)
    (h : Tt C n env bs ns c fun t m => if t = true then Ev C n env bs m elt fun v m => Ml C n env m (ys ++ [v]) elt target iter [c] scope pos rest Q else Ml C n env m ys elt target iter [c] scope pos rest Q) : Ml C n env ns ys elt target iter [c] scope pos (bs :: rest) Q :=
  ml_turn he ht hz fun A g s R G S => wpAny_tests_one (h.run R G S fun t s1 m S1 k1 q => by
    cases t
    · exact ⟨bs, m, S1, k1, q⟩
    · simp only [if_true] at q ⊢
      exact Vl.run q R G S1 fun v s2 m2 S2 k2 q2 => ⟨bs, m2, S2, k1.trans k2, q2⟩)
end

theorem St.join {h₀ g h h' : Heap} {L' : Addr} {ls' : LS} {m : NS} (S : St C h₀ L ls (fz ++ ns) h) (up : ∀ b o, h₀.get? b = some o → g.get? b = some o) (hL : ∀ o, h.get? L = some o → g.get? L = some o)
    (hz : ∀ p ∈ fz, ∀ o, h.get? p.1 = some o → g.get? p.1 = some o) (S' : St C g L' ls' m h') : St C h₀ L ls (fz ++ m) h' := by
  have nd := S.nd
  rw [List.map_append] at nd
  obtain ⟨n1, n2, n3⟩ := List.nodup_append.mp nd
  obtain ⟨mm, F, hl⟩ := S.fr
  obtain ⟨oL, _, _, hoL, _⟩ := id F
  refine ⟨⟨mm, F.at' fun o e => S'.keep _ _ (hL o e), hl⟩, fun b o e => S'.keep _ _ (up b o e), S.nL, fun p hp => ?_, ?_⟩
  · rcases List.mem_append.mp hp with hp | hp
    · obtain ⟨a, b, o, e, z⟩ := S.nw p (List.mem_append_left _ hp)
      exact ⟨a, b, o, S'.keep _ _ (hz p hp o e), z⟩
    · obtain ⟨a, b, o, e, z⟩ := S'.nw p hp
      refine ⟨fun q => ?_, ?_, o, e, z⟩
      · rw [q, hL _ hoL] at b; cases b
      · cases q : h₀.get? p.1 with
        | none => rfl
        | some x => rw [up _ _ q] at b; cases b
  · rw [List.map_append]
    refine List.nodup_append.mpr ⟨n1, S'.nd, fun a ha b hb e => ?_⟩
    subst e
    obtain ⟨p, hp, rfl⟩ := List.mem_map.mp ha
    obtain ⟨q, hq, e⟩ := List.mem_map.mp hb
    obtain ⟨_, _, o, eo, _⟩ := S.nw p (List.mem_append_left _ hp)
    obtain ⟨_, z, _⟩ := S'.nw q hq
    rw [e, hz p hp o eo] at z; cases z

/-- a comprehension over what the iterator binds; the comprehension's own frame is Cn -/
theorem comp_core {xv : Value} {cl : List (Str × Addr)} {A : Around} {h₀ : Heap} {s : Shared} {P : List Value → NS → NS → Prop} {RR : Value → Addr → Result → Shared → Prop}
    (hcell : ∀ y ∈ scope.names, y.2 ≠ .cell) (hkind : scope.kind = .function) (R : Rm n A) (G : Gd C h₀) (S : St C h₀ L ls ns s.heap)
    (h : Itr C n L ls ns target xv fun bs fz m => ∀ Cn, Ml C n (compEnvC scope cl Cn env) m [] elt target iter ifs scope pos bs fun ys m' => P ys fz m')
    (hRR : ∀ D Cn ys fz m s', St C h₀ L ls ((D, .list ys) :: (fz ++ m)) s'.heap → Later s s' → (∃ mm, s'.heap.Ns Cn mm) → h₀.get? Cn = none → Cn ≠ L → (∀ p ∈ (D, PO.list ys) :: (fz ++ m), p.1 ≠ Cn) → P ys fz m → RR (.ref D) Cn (.ok .next) s') :
    ∀ xv', er xv' = xv → wpAny C.M A (pyIter xv') (fun it s₂ => wpAny C.M A (newList []) (fun acc s₃ => wpAny C.M A (newFunctionEnv scope env.globals cl [] env.qual none .none (some env)) (fun cenv s₄ =>
      codeAny C.M A (.compStart (.ListComp elt [⟨target, iter, ifs, 0⟩] scope pos) 0 it acc { cenv with scope := relabel scope env }) (RR acc cenv.locals) s₄) Bot s₃) Bot s₂) Bot s := fun xv' hxv => by
  refine wpAny_mono (h xv' hxv A h₀ s R G S) (fun it s2 q => ?_) fun _ _ e => e
  obtain ⟨fp, wr, bs, W, fz, m, w, hW, hL, hn, hf, h0, S2, k2, q⟩ := q
  refine wpAny_newObj_type (wpAny_newFunctionEnv hcell (by intro y hy; simp at hy) (fun h₁ hns hsb => ?_) hkind)
  dsimp only at hns hsb
  generalize hH2 : s2.heap.push { cls := .type "list", dict := none, data := .seq ([] : List Value).toArray } = H2 at hns hsb
  have hC : H2.objs.size = s2.heap.objs.size + 1 := by rw [← hH2, Heap.size_push]
  have S3 : St C h₀ L ls ((s2.heap.objs.size, .list []) :: (fz ++ m)) H2 := hH2 ▸ S2.alloc (o := .list []) ⟨_, 0, rfl, rfl⟩
  have old : ∀ b o, H2.get? b = some o → h₁.get? b = some o := fun b o e => hsb.extBut b o (Nat.ne_of_lt (Heap.lt_size e)) (Heap.get?_push_of_some _ e)
  have old2 : ∀ b o, s2.heap.get? b = some o → h₁.get? b = some o := fun b o e => old b o (hH2 ▸ Heap.get?_push_of_some _ e)
  have S4 : St C h₀ L ls ((s2.heap.objs.size, .list []) :: (fz ++ m)) h₁ := S3.ext old
  have lt2 : ∀ b o, s2.heap.get? b = some o → b ≠ H2.objs.size ∧ b ≠ s2.heap.objs.size := fun b o e => by
    have := Heap.lt_size e
    refine ⟨fun q => ?_, fun q => ?_⟩
    · rw [q, hC] at this; exact Nat.lt_irrefl _ (Nat.lt_of_succ_lt this)
    · rw [q] at this; exact Nat.lt_irrefl _ this
  have nd2 := S2.nd
  rw [List.map_append] at nd2
  obtain ⟨n1, n2, n3⟩ := List.nodup_append.mp nd2
  let hid := H2.objs.size :: s2.heap.objs.size :: (m.map (·.1) ++ wr)
  have ing : ∀ b o, s2.heap.get? b = some o → b ∉ m.map (·.1) → b ∉ wr → (hideAll h₁ hid).get? b = some o := fun b o e h1 h2 => by
    refine hideAll_get _ (old2 _ _ e) fun q => ?_
    rcases List.mem_cons.mp q with q | q
    · exact (lt2 b o e).1 q
    · rcases List.mem_cons.mp q with q | q
      · exact (lt2 b o e).2 q
      · exact (List.mem_append.mp q).elim h1 h2
  have up : ∀ b o, h₀.get? b = some o → (hideAll h₁ hid).get? b = some o := fun b o e => ing b o (S2.keep _ _ e) (fun q => by
    obtain ⟨p, hp, rfl⟩ := List.mem_map.mp q
    rw [(S2.nw p (List.mem_append_right _ hp)).2.1] at e; cases e) fun q => by rw [h0 b q] at e; cases e
  have gL : ∀ o, s2.heap.get? L = some o → (hideAll h₁ hid).get? L = some o := fun o e => ing L o e (fun q => by
    obtain ⟨p, hp, q⟩ := List.mem_map.mp q
    exact (S2.nw p (List.mem_append_right _ hp)).1 q) fun q => hL (w.sub _ q)
  have gz : ∀ p ∈ fz, ∀ o, s2.heap.get? p.1 = some o → (hideAll h₁ hid).get? p.1 = some o := fun p hp o e => ing _ o e (fun q => n3 _ (List.mem_map_of_mem hp) _ q rfl) (hf p hp).2
  have Si : St C (hideAll h₁ hid) H2.objs.size [] ((s2.heap.objs.size, .list []) :: m) h₁ := by
    refine ⟨⟨_, hns, fun x v e => by cases e⟩, fun b o e => of_hideAll _ e, hideAll_none _ (.head _), fun p hp => ?_, ?_⟩
    · rcases List.mem_cons.mp hp with rfl | hp
      · obtain ⟨_, _, o, e, z⟩ := S4.nw _ (.head _)
        exact ⟨by show s2.heap.objs.size ≠ _; rw [hC]; exact Nat.ne_of_lt (Nat.lt_succ_self _), hideAll_none _ (.tail _ (.head _)), o, e, z⟩
      · obtain ⟨_, _, o, e, z⟩ := S4.nw p (.tail _ (List.mem_append_right _ hp))
        obtain ⟨_, _, o', e', _⟩ := S2.nw p (List.mem_append_right _ hp)
        exact ⟨(lt2 _ _ e').1, hideAll_none _ (.tail _ (.tail _ (List.mem_append_left _ (List.mem_map_of_mem hp)))), o, e, z⟩
    · rw [List.map_cons, List.nodup_cons]
      refine ⟨fun q => ?_, n2⟩
      obtain ⟨p, hp, q⟩ := List.mem_map.mp q
      obtain ⟨_, _, o', e', _⟩ := S2.nw p (List.mem_append_right _ hp)
      exact (lt2 _ _ e').2 q
  have W1 : W 0 h₁ := w.frame _ _ _ hW fun b hb o e => old2 _ _ e
  have nfp : ∀ b ∈ fp, b ≠ H2.objs.size ∧ b ≠ s2.heap.objs.size := fun b hb => by obtain ⟨o, e⟩ := w.has _ _ hW b hb; exact lt2 _ _ e
  have k4 : ∀ s', Later { s2 with heap := h₁, toks := s2.toks } s' → Later s s' := fun s' k => k2.trans ((Later.of h₁ s2.toks).trans k)
  have loop : codeAny C.M A (.compLoop (.ListComp elt [⟨target, iter, ifs, 0⟩] scope pos) 0 it (.ref s2.heap.objs.size) (compEnvC scope cl H2.objs.size env)) (RR (.ref s2.heap.objs.size) H2.objs.size) { s2 with heap := h₁, toks := s2.toks } := by
    refine codeAny_mono (q H2.objs.size it fp wr bs W 0 s2.heap.objs.size A (hideAll h₁ hid) { s2 with heap := h₁, toks := s2.toks } w rfl (Nat.zero_le _) R (G.keeps up) Si W1 (fun z => (nfp _ z).1 rfl) (fun z => (nfp _ z).2 rfl) hn
      fun b hb => hideAll_none _ (.tail _ (.tail _ (List.mem_append_right _ hb)))) fun r s' z => ?_
    obtain ⟨rfl, ys, m', S5, k5, z⟩ := z
    have S6 := S2.join up gL gz S5
    have S7 : St C h₀ L ls ((s2.heap.objs.size, .list ys) :: (fz ++ m')) s'.heap := S6.perm (by
      exact List.perm_middle.symm)
    obtain ⟨mm, F5, _⟩ := S5.fr
    refine hRR _ _ ys fz m' s' S7 (k4 _ k5) ⟨mm, F5⟩ ?_ ?_ ?_ z
    · cases e : h₀.get? H2.objs.size with
      | none => rfl
      | some o => have := up _ _ e; rw [hideAll_none hid (.head _)] at this; cases this
    · intro e
      have := S2.ltL
      rw [← e, hC] at this; exact Nat.lt_irrefl _ (Nat.lt_of_succ_lt this)
    · intro p hp e
      rcases List.mem_cons.mp hp with rfl | hp
      · have : s2.heap.objs.size = H2.objs.size := e
        rw [hC] at this; exact Nat.ne_of_lt (Nat.lt_succ_self _) this
      · rcases List.mem_append.mp hp with hp | hp
        · obtain ⟨_, _, o, e', _⟩ := S2.nw p (List.mem_append_left _ hp)
          exact (lt2 _ _ e').1 e
        · exact (S5.nw p (.tail _ hp)).1 e
  exact codeAny_compStart_list loop (wpAny_mono (w.self 0 A _ _ R.hh W1 loop) (fun _ _ x => x) fun _ _ e => e.elim)

theorem ev_comp {cl : List (Str × Addr)} {Q : Value → NS → Prop} (hclos : closureFor scope env = Pure.pure cl) (hcell : ∀ y ∈ scope.names, y.2 ≠ .cell) (hkind : scope.kind = .function)
    (hnames : ∀ y ∈ scope.names, y.2 = .local → scope.names.lookup y.1 = some .local)
    (h : Ev C n env ls ns iter fun xv m => Itr C n env.locals ls m target xv fun bs fz m => ∀ Cn, Ml C n (compEnvC scope cl Cn env) m [] elt target iter ifs scope pos bs fun ys m' => ∀ D, Q (.ref D) ((D, .list ys) :: (fz ++ m')))
    (hs : ∀ x, foldedSetIterable iter env x = Pure.pure x := by intro _; rfl) : Ev C n env ls ns (.ListComp elt [⟨target, iter, ifs, 0⟩] scope pos) Q := fun A h₀ s R G S => by
  rw [eval_ListComp]
  refine wpAny_comprehension_free (use := none) rfl hs hclos hkind hnames (h.run R G S fun xv s1 m S1 k1 q => ?_)
  refine comp_core (RR := fun acc Cn => compPost C.M A Bot none _ acc Cn) hcell hkind R G S1 q (fun D Cn ys fz m s' S' k' hns hC0 hCL hCn P => ?_) xv rfl
  obtain ⟨mm, F⟩ := hns
  refine ⟨mm, F, fun h' hs' => .v (S'.wr (wr := [Cn]) (fun b o hb e => hs'.extBut b o (fun q => hb (by simp [q])) e) (fun q => hCL (List.mem_singleton.mp q).symm) (fun p hp q => hCn p hp (List.mem_singleton.mp q)) fun b hb => (List.mem_singleton.mp hb) ▸ hC0) ((k1.trans k').trans (.of _ s'.toks)) (P D)⟩

/-- a name bound to a comprehension's list -/
theorem x_comp {cl : List (Str × Addr)} {x : Str} {px ap : Pos} {Q : Flow → LS → NS → Prop} (he : FnEnv env) (hclos : closureFor scope env = Pure.pure cl) (hcell : ∀ y ∈ scope.names, y.2 ≠ .cell) (hkind : scope.kind = .function)
    (hnames : ∀ y ∈ scope.names, y.2 = .local → scope.names.lookup y.1 = some .local) (hx : env.kindOf x = some .local)
    (h : Ev C n env ls ns iter fun xv m => Itr C n env.locals ls m target xv fun bs fz m => ∀ Cn, Ml C n (compEnvC scope cl Cn env) m [] elt target iter ifs scope pos bs fun ys m' => ∀ D, Q .next ((x, .ref D) :: ls) ((D, .list ys) :: (fz ++ m')))
    (hsw : swapsWithSole [.Name x px] (.ListComp elt [⟨target, iter, ifs, 0⟩] scope pos) ap.line env = Pure.pure true := by rfl)
    (hs : ∀ x, foldedSetIterable iter env x = Pure.pure x := by intro _; rfl) : Ex1 C n env ls ns (.Assign [.Name x px] (.ListComp elt [⟨target, iter, ifs, 0⟩] scope pos) ap) Q := fun A h₀ s R G S => by
  rw [exec_Assign_arm]
  refine wpAny_bind (wpAny_standAt ?_)
  rw [hsw]
  refine wpAny_bind (wpAny_pure ?_)
  rw [if_pos rfl]
  refine wpAny_bind ?_
  show wpAny C.M A (do let _ ← comprehension (.ListComp elt [⟨target, iter, ifs, 0⟩] scope pos) scope env (firstIterPos [⟨target, iter, ifs, 0⟩] pos) (newList []) (firstAsync [⟨target, iter, ifs, 0⟩]) (firstIter [⟨target, iter, ifs, 0⟩] env) (some _)) _ _ s
  refine wpAny_bind (wpAny_comprehension_free (Q := fun _ s' => wpAny C.M A (Pure.pure ()) (fun _ s' => wpAny C.M A (Pure.pure Flow.next) (Post C h₀ env.locals s fun f l m => Q (erF f) l m) Bot s') Bot s') rfl hs hclos hkind hnames (h.run R G S fun xv s1 m S1 k1 q => ?_))
  refine comp_core (RR := fun acc Cn => compPost C.M A Bot (some fun v => assignAll v ((assignEach [.Name x px] env).map (·.2))) _ acc Cn) hcell hkind R G S1 q (fun D Cn ys fz m s' S' k' hns hC0 hCL hCn P => ?_) xv rfl
  obtain ⟨mm, F⟩ := hns
  obtain ⟨mL, FL, _⟩ := id S'.fr
  show wpAny C.M A (assign (.Name x px) env (.ref D)) _ _ s'
  refine assign_Name (wpAny_storeName_local hx FL (fun h' hn hs' => ?_) (by rw [he.k]; rfl))
  have S2 := S'.store (x := x) (v := .ref D) (fun m' hm => by rw [ns_uniq hm FL]; exact hn) hs'
  refine ⟨mm, F.sameBut hs' hCL, fun h'' hs'' => wpAny_pure (wpAny_pure ⟨_, _, S2.wr (wr := [Cn]) (fun b o hb e => hs''.extBut b o (fun q => hb (by simp [q])) e) (fun q => hCL (List.mem_singleton.mp q).symm) (fun p hp q => hCn p hp (List.mem_singleton.mp q)) fun b hb => (List.mem_singleton.mp hb) ▸ hC0, ?_, P D⟩)⟩
  exact (k1.trans k').trans ((Later.of h' (s'.toks + 1)).trans (.of _ _))
end
section
variable {C : Cx} {n : Nat} {L : Addr} {ls : LS} {ns ns' : NS} {env : Env} {pos p px : Pos} {value slice : Expr} {a b : Addr} {vs ws : List Value}
/-- a frame and a ledger of the library's kind, that hold all that lies in the heap -/
theorem St.fake {h₀ h : Heap} (S : St C h₀ L ls ns h) : ∃ m all, Fr {} L h m ∧ News {} L h all ∧ (∀ b o, b ≠ L → h.get? b = some o → (b, o) ∈ all) ∧ ∀ h', Fr {} L h' m → (∀ p ∈ all, h'.get? p.1 = some p.2) → St C h₀ L ls ns h' := by
  obtain ⟨m, F, hl⟩ := S.fr
  have em : ∀ b, ({} : Heap).get? b = none := fun b => none_of_size (Nat.zero_le _)
  refine ⟨m, (List.range h.objs.size).filterMap fun b => if b = L then none else (h.get? b).map fun o => (b, o), ⟨F, (fun b o e => by rw [em] at e; cases e), Nat.zero_le _⟩, fun p hp => ?_, fun b o hb e => List.mem_filterMap.mpr ⟨b, List.mem_range.mpr (Heap.lt_size e), by rw [if_neg hb, e]; rfl⟩, fun h' F' k => ?_⟩
  · obtain ⟨b, _, hb⟩ := List.mem_filterMap.mp hp
    by_cases e : b = L
    · rw [if_pos e] at hb; cases hb
    · rw [if_neg e] at hb
      obtain ⟨o, ho, rfl⟩ := Option.map_eq_some_iff.mp hb
      exact ⟨ho, e, em _⟩
  · have up : ∀ b o, b ≠ L → h.get? b = some o → h'.get? b = some o := fun b o hb e => k (b, o) (List.mem_filterMap.mpr ⟨b, List.mem_range.mpr (Heap.lt_size e), by rw [if_neg hb, e]; rfl⟩)
    exact ⟨⟨m, F'.ns, hl⟩, fun b o e => up b o (fun q => by rw [q, S.nL] at e; cases e) (S.keep b o e), S.nL, fun p hp => let ⟨x, y, o, e, z⟩ := S.nw p hp; ⟨x, y, o, up _ _ x e, z⟩, S.nd⟩
theorem St.push' {h₀ h h' : Heap} {o : PO} {x : Obj} (S : St C h₀ L ls ns h') (S₀ : St C h₀ L ls ns h) (hx : h'.get? a = some x) (ha : h.get? a = none) (hL : a ≠ L) (ho : o.is C.w.params x) : St C h₀ L ls ((a, o) :: ns) h' := by
  refine ⟨S.fr, S.keep, S.nL, fun p hp => ?_, ?_⟩
  · rcases List.mem_cons.mp hp with rfl | hp
    · refine ⟨hL, ?_, x, hx, ho⟩
      cases e : h₀.get? a with
      | none => rfl
      | some y => have := S₀.keep _ _ e; rw [ha] at this; cases this
    · exact S.nw p hp
  · rw [List.map_cons, List.nodup_cons]
    refine ⟨fun hm => ?_, S.nd⟩
    obtain ⟨p, hp, e⟩ := List.mem_map.mp hm
    obtain ⟨_, _, y, hy, _⟩ := S₀.nw p hp
    rw [show p.1 = a from e, ha] at hy; cases hy

section
variable {Q : Value → NS → Prop}
theorem cl_len (hm : HasL ns a vs) (hz : vs.length ≤ sizeLine) (h : Q (I vs.length) ns) : Cl C n L ls ns (.builtin "len") [.ref a] Q := fun vs' hvs A h₀ s R G S => by
  obtain ⟨a', rfl, ha⟩ := map_er1 hvs
  obtain rfl := er_ref ha
  obtain ⟨xs, k, e, hx, hv⟩ := getList S hm
  have hs := er_size hv
  rw [sizeLine_eq] at hz
  exact Calls.call_len_list hx (by omega) (.v S (.of _ _) (by simpa [er, hs] using h))
theorem cl_range1 {i : Int} (h : ∀ r t u v, Q (.ref r) ((r, .raw (rangeObj 0 i t u v)) :: ns)) : Cl C n L ls ns (.type "range") [I i] Q := fun vs' hvs A h₀ s R G S => by
  obtain ⟨a', rfl, ha⟩ := map_er1 hvs
  obtain ⟨t, rfl⟩ := er_int ha
  exact call_range_1 (.v (S.alloc (o := .raw (rangeObj 0 i s.toks t (s.toks + 1))) rfl) (.of _ _) (h _ _ _ _))
theorem cl_range2 {i j : Int} (h : ∀ r t u v, Q (.ref r) ((r, .raw (rangeObj i j t u v)) :: ns)) : Cl C n L ls ns (.type "range") [I i, I j] Q := fun vs' hvs A h₀ s R G S => by
  obtain ⟨a', b', rfl, ha, hb⟩ := map_er2 hvs
  obtain ⟨t, rfl⟩ := er_int ha
  obtain ⟨t', rfl⟩ := er_int hb
  exact call_range_2 (.v (S.alloc (o := .raw (rangeObj i j t t' s.toks)) rfl) (.of _ _) (h _ _ _ _))
theorem cl_max {i j : Int} (h : Q (I (max i j)) ns) : Cl C n L ls ns (.builtin "max") [I i, I j] Q := fun vs' hvs A h₀ s R G S => by
  obtain ⟨a', b', rfl, ha, hb⟩ := map_er2 hvs
  obtain ⟨t, rfl⟩ := er_int ha
  obtain ⟨t', rfl⟩ := er_int hb
  refine max_two_ints R.hh fun h' tk hk => .v (S.ext hk) (.of _ _) ?_
  have : er (if j > i then Value.int j t' else .int i t) = I (max i j) := by
    split <;> simp only [er] <;> congr 1 <;> omega
  rw [this]; exact h
theorem cl_min {i j : Int} (h : Q (I (min i j)) ns) : Cl C n L ls ns (.builtin "min") [I i, I j] Q := fun vs' hvs A h₀ s R G S => by
  obtain ⟨a', b', rfl, ha, hb⟩ := map_er2 hvs
  obtain ⟨t, rfl⟩ := er_int ha
  obtain ⟨t', rfl⟩ := er_int hb
  refine min_two_ints R.hh fun h' tk hk => .v (S.ext hk) (.of _ _) ?_
  have : er (if j < i then Value.int j t' else .int i t) = I (min i j) := by
    split <;> simp only [er] <;> congr 1 <;> omega
  rw [this]; exact h
theorem cl_abs {i : Int} (h : Q (I (i.natAbs : Int)) ns) : Cl C n L ls ns (.builtin "abs") [I i] Q := fun vs' hvs A h₀ s R G S => by
  obtain ⟨a', rfl, ha⟩ := map_er1 hvs
  obtain ⟨t, rfl⟩ := er_int ha
  refine call_abs_int fun u tk => .v S (.of _ _) ?_
  have : (if i < 0 then -i else i) = (i.natAbs : Int) := by split <;> omega
  rw [this]; exact h
theorem cl_int {i : Int} (h : Q (I i) ns) : Cl C n L ls ns (.type "int") [I i] Q := fun vs' hvs A h₀ s R G S => by
  obtain ⟨a', rfl, ha⟩ := map_er1 hvs
  obtain ⟨t, rfl⟩ := er_int ha
  exact call_int_int (.v S (.refl _) h)
theorem cl_divmod {i j : Int} (hj : j ≠ 0) (hz : Builtin.divisionGoesByPylong i j = false) (h : ∀ t, Q (.ref t) ((t, .tup [I (i.fdiv j), I (i.fmod j)]) :: ns)) : Cl C n L ls ns (.builtin "divmod") [I i, I j] Q := fun vs' hvs A h₀ s R G S => by
  obtain ⟨a', b', rfl, ha, hb⟩ := map_er2 hvs
  obtain ⟨t, rfl⟩ := er_int ha
  obtain ⟨t', rfl⟩ := er_int hb
  exact divmod_int hj (.v (S.alloc (o := .tup [I (i.fdiv j), I (i.fmod j)]) ⟨_, 0, rfl, rfl⟩) (.of _ _) (h _)) (.inl hz)
theorem cl_chr {i : Int} (h0 : 0 ≤ i) (h1 : i ≤ 1114111) (h : Q (S ⟨#[i.toNat]⟩) ns) : Cl C n L ls ns (.builtin "chr") [I i] Q := fun vs' hvs A h₀ s R G S => by
  obtain ⟨a', rfl, ha⟩ := map_er1 hvs
  obtain ⟨t, rfl⟩ := er_int ha
  exact PySem.P.chr_of_int (by simp; omega) (.v S (.of _ _) h)
theorem cl_ord {c : Nat} (h : Q (I (c : Int)) ns) : Cl C n L ls ns (.builtin "ord") [S ⟨#[c]⟩] Q := fun vs' hvs A h₀ s R G Z => by
  obtain ⟨a', rfl, ha⟩ := map_er1 hvs
  obtain ⟨t, rfl⟩ := er_str ha
  exact PySem.P.ord_of_char (.v Z (.of _ _) h)
theorem cl_tuple (hm : HasL ns a vs) (hz : vs.length ≤ sizeLine) (h : ∀ t, Q (.ref t) ((t, .tup vs) :: ns)) : Cl C n L ls ns (.type "tuple") [.ref a] Q := fun vs' hvs A h₀ s R G S => by
  obtain ⟨a', rfl, ha⟩ := map_er1 hvs
  obtain rfl := er_ref ha
  obtain ⟨xs, k, e, hx, hv⟩ := getList S hm
  exact call_tuple_list hx (fun h' hk => .v ((S.ext hk).alloc (o := .tup vs) ⟨_, 0, rfl, hv⟩) (.of _ _) (h _)) (by rw [er_size hv]; exact hz)
/-- a text's signs as texts -/
def charsV (x : Str) : List Value := x.cps.toList.map fun c => S ⟨#[c]⟩
theorem cl_listStr {x : Str} (hz : x.length ≤ sizeLine) (h : ∀ t, Q (.ref t) ((t, .list (charsV x)) :: ns)) : Cl C n L ls ns (.type "list") [S x] Q := fun vs' hvs A h₀ s R G Z => by
  obtain ⟨a', rfl, ha⟩ := map_er1 hvs
  obtain ⟨t, rfl⟩ := er_str ha
  refine call_list_str R.hh x t (fun h' tk acc c hk hx hi => .v (Z.add (o := .list (charsV x)) hk (none_of_size (Nat.le_refl _)) hx ⟨_, _, rfl, ?_⟩) (.of _ _) (h _)) hz
  obtain ⟨h1, h2⟩ := hi
  apply List.ext_getElem?
  intro i
  unfold charsV
  rw [List.getElem?_map, List.getElem?_map, Array.getElem?_toList, Array.getElem?_toList]
  cases e : acc[i]? with
  | none =>
    have : acc.size ≤ i := by simpa using e
    have : x.cps[i]? = none := by simpa using (h1 ▸ this)
    rw [this]; rfl
  | some v =>
    obtain ⟨c', u, hc, rfl⟩ := h2 i v e
    rw [hc]; rfl
theorem strs_of {xs : List Value} : ∀ {ys : List Str}, xs.map er = ys.map S → StrsAre xs ys := by
  induction xs with
  | nil => intro ys h; cases ys with
    | nil => exact .nil
    | cons y r => cases h
  | cons x r ih => intro ys h; cases ys with
    | nil => cases h
    | cons y q =>
      simp only [List.map_cons, List.cons.injEq] at h
      obtain ⟨t, rfl⟩ := er_str h.1
      exact .cons _ _ (ih h.2)
theorem cl_join {x : Str} {ys : List Str} (hm : HasL ns a (ys.map S)) (hx : x.length ≤ 64) (hz : (ys.map fun y => y.length).sum + ys.length * 64 ≤ 16777216) (h : Q (S (Txt.join x ys)) ns) : Cl C n L ls ns (.builtin "str.join") [S x, .ref a] Q := fun vs' hvs A h₀ s R G Z => by
  obtain ⟨x', a', rfl, ha, hb⟩ := map_er2 hvs
  obtain ⟨t, rfl⟩ := er_str ha
  obtain rfl := er_ref hb
  obtain ⟨xs, k, e, hxs, hv⟩ := getList Z hm
  exact join_listC hxs (strs_of hv) hx hz fun t' k => .v Z (.of _ _) h
theorem cl_split {x y : Str} (hy : (y.length == 0) = false) (hz : x.length + 2 ≤ sizeLine) (h : ∀ t, Q (.ref t) ((t, .list ((Txt.split x y).map S)) :: ns)) : Cl C n L ls ns (.builtin "str.split") [S x, S y] Q := fun vs' hvs A h₀ s R G Z => by
  obtain ⟨x', y', rfl, ha, hb⟩ := map_er2 hvs
  obtain ⟨t, rfl⟩ := er_str ha
  obtain ⟨u, rfl⟩ := er_str hb
  obtain ⟨m, all, F, N, _, back⟩ := Z.fake
  refine splitN1 F N hy (fun l h' k hl F' N' => .v ((back h' F' fun p hp => (N' p (.tail _ hp)).1).push' (o := .list ((Txt.split x y).map S)) (h := s.heap) Z (N' _ (.head _)).1 (none_of_size (Nat.le_refl _)) (N' _ (.head _)).2.1 ⟨_, 0, rfl, ?_⟩) (.of _ _) (h _)) hz
  rw [← hl]; simp [strValues, er]
theorem cl_count {x y : Str} (h : Q (I (Txt.count x y)) ns) : Cl C n L ls ns (.builtin "str.count") [S x, S y] Q := fun vs' hvs A h₀ s R G Z => by
  obtain ⟨x', y', rfl, ha, hb⟩ := map_er2 hvs
  obtain ⟨t, rfl⟩ := er_str ha
  obtain ⟨u, rfl⟩ := er_str hb
  exact SC.count (.v Z (.of _ _) h)
end
theorem tr_list {Q : Bool → NS → Prop} (hm : HasL ns a vs) (hz : vs.length ≤ sizeLine) (h : Q (!vs.isEmpty) ns) : Tr C n L ls ns (.ref a) Q := fun a' ha A h₀ s R G Z => by
  obtain rfl := er_ref ha
  obtain ⟨xs, k, e, hx, hv⟩ := getList Z hm
  have hs := er_size hv
  rw [sizeLine_eq] at hz
  refine wpAny_truthy_list hx (by omega) (.b Z (.of _ _) ?_)
  have : (!xs.isEmpty) = !vs.isEmpty := by
    congr 1
    rw [← hv, ← Array.isEmpty_toList]
    cases xs.toList <;> rfl
  rw [this]; exact h
end
/-! a dict of attributes -/
def putF (name : Str) (v : Value) : List (Str × Value) → List (Str × Value)
  | [] => [(name, v)]
  | p :: r => if p.1 = name then (p.1, v) :: r else p :: putF name v r
theorem keys_get {P : Params} {name : Str} : ∀ {es : List DictEntry} {fs : List (Str × Value)}, KeysAre P es fs → (∀ v, fs.lookup name = some v → ∃ u, getL name es = some (some u) ∧ er u = v) ∧ (fs.lookup name = none → getL name es = some none)
  | [], [], _ => ⟨(fun v h => by cases h), fun _ => rfl⟩
  | [], _ :: _, h => h.elim
  | _ :: _, [], h => h.elim
  | e :: r, (x, v) :: fs, h => by
    obtain ⟨⟨t, hk, hh⟩, hv, h⟩ := h
    obtain ⟨i1, i2⟩ := keys_get (name := name) h
    have ek : e.key.isStr name = (x == name) := by rw [hk]; rfl
    have rk : e.refKey = false := by unfold DictEntry.refKey; rw [hk]
    unfold getL at i1 i2 ⊢
    simp only [List.find?_cons, List.lookup_cons, List.any_cons, ek, rk, Bool.false_or]
    by_cases q : x = name
    · subst q
      simp only [beq_self_eq_true]
      exact ⟨fun v' e' => by cases e'; exact ⟨_, rfl, hv⟩, fun e' => by cases e'⟩
    · have q1 : (x == name) = false := by simpa using q
      have q2 : (name == x) = false := by simpa using fun e => q e.symm
      simp only [q1, q2]
      exact ⟨i1, i2⟩
theorem keys_put {P : Params} {name : Str} {t : Tok} {u v : Value} (hu : er u = v) : ∀ {es : List DictEntry} {fs : List (Str × Value)}, KeysAre P es fs → KeysAre P (putL name (PyData.keyHash P name) (.str name t) u es) (putF name v fs)
  | [], [], _ => ⟨⟨t, rfl, rfl⟩, hu, trivial⟩
  | [], _ :: _, h => h.elim
  | _ :: _, [], h => h.elim
  | e :: r, (x, w) :: fs, h => by
    obtain ⟨⟨t', hk, hh⟩, hv, h⟩ := h
    have ek : e.key.isStr name = (x == name) := by rw [hk]; rfl
    unfold putL putF
    rw [ek]
    by_cases q : x = name
    · subst q
      rw [if_pos (by simp), if_pos rfl]
      exact ⟨⟨t', hk, hh⟩, hu, h⟩
    · rw [if_neg (by simpa using q), if_neg q]
      exact ⟨⟨t', hk, hh⟩, hv, keys_put hu h⟩
theorem keys_len {P : Params} : ∀ {es : List DictEntry} {fs : List (Str × Value)}, KeysAre P es fs → es.length = fs.length
  | [], [], _ => rfl
  | [], _ :: _, h => h.elim
  | _ :: _, [], h => h.elim
  | _ :: _, _ :: _, h => by simp [keys_len h.2.2]
theorem putF_len (name : Str) (v : Value) : ∀ fs : List (Str × Value), (putF name v fs).length ≤ fs.length + 1
  | [] => by simp [putF]
  | p :: r => by
    unfold putF
    split
    · simp
    · simp [putF_len name v r]

section
variable {C : Cx} {n : Nat} {L : Addr} {ls : LS} {ns ns' : NS} {env : Env} {pos p px : Pos} {value slice : Expr} {a b x dx Cc : Addr} {vs ws : List Value} {fs : List (Str × Value)} {name : Str} {v : Value}
theorem getInst {h₀ h : Heap} (S : St C h₀ L ls ns h) (hi : (x, PO.inst Cc dx) ∈ ns) (hd : (dx, PO.dict fs) ∈ ns) : ∃ es k, h.get? dx = some (dictOf es k) ∧ KeysAre C.w.params es fs ∧ InstAt h x (instObj Cc dx) Cc (some (dictOf es k)) := by
  obtain ⟨o, e, ho⟩ := S.get hi
  obtain rfl : o = _ := ho
  obtain ⟨o, e', es, k, rfl, hk⟩ := S.get hd
  exact ⟨es, k, e', hk, ⟨e, rfl, rfl, e'⟩⟩

/-- an attribute's read -/
def At (C : Cx) (n : Nat) (L : Addr) (ls : LS) (ns : NS) (o : Value) (name : Str) (Q : Value → NS → Prop) : Prop := ∀ o' ex, er o' = o → Vl C n L ls ns (getAttr o' name ex) Q
theorem ev_attr {o : Expr} {Q : Value → NS → Prop} (h : Ev C n env ls ns o fun ov m => At C n env.locals ls m ov name Q)
    (he : eval (.Attribute o name pos) env = (do
      let o' ← eval o env
      standAt pos.atName
      let r ← holding [o'] (getAttr o' name true)
      letTemporaryGo o o' r
      Pure.pure r) := by with_unfolding_all rfl) : Ev C n env ls ns (.Attribute o name pos) Q :=
  fun A h₀ s R G S => Attribute_any_ (prog := C.prog) (w := C.w) (h.run R G S fun ov s1 m S1 k1 q => (q ov true rfl).next R G S1 k1) he
section
variable {Q : Value → NS → Prop}
theorem handed_er {u v : Value} (h : er u = v) (hv : handedIn v = true) : handedIn u = true := by
  subst h; cases u <;> exact hv
theorem at_own {attr : Option Value} (hi : (x, PO.inst Cc dx) ∈ ns) (hd : (dx, PO.dict fs) ∈ ns) (hg : plainGet C.K Cc name = true) (hh : hasDictIn C.K Cc = true) (ha : findIn C.K (.ref Cc) name = some attr) (hn : noGet C.K attr = true)
    (hl : fs.lookup name = some v) (hv : handedIn v = true) (h : Q v ns) : At C n L ls ns (.ref x) name Q := fun o' ex ho A h₀ s R G S => by
  obtain rfl := er_ref ho
  obtain ⟨es, k, e, hk, I⟩ := getInst S hi hd
  obtain ⟨u, hu, eu⟩ := (keys_get hk).1 v hl
  exact get_value (S.gd G).X I (plainGet_of hg).1 (findObj_own hh ha hn hu) (handed_er eu hv) (.v S (.of _ _) (eu ▸ h))
theorem at_clsval {mc a' : Value} (hr : readsIn C.K Cc mc = true) (e : findCls C.K (.ref Cc) mc name = some (.val a')) (hh : handedIn a' = true) (h : Q (er a') ns) : At C n L ls ns (.ref Cc) name Q := fun o' ex ho A h₀ s R G S => by
  obtain rfl := er_ref ho
  exact cls_value (S.gd G).X hr e hh (.v S (.of _ _) h)
theorem at_bound {f : Addr} (hi : (x, PO.inst Cc dx) ∈ ns) (hd : (dx, PO.dict fs) ∈ ns) (hg : plainGet C.K Cc name = true) (hh : hasDictIn C.K Cc = true) (ha : findIn C.K (.ref Cc) name = some (some (.ref f))) (hf : isFn C.K (.ref f) = true)
    (hgf : specialIn C.K (.ref f) "__get__" = some (some (.builtin "function.__get__"))) (ht : takesIn C.K (.ref f) = some false) (hc : copiedNames.contains name = false) (hl : fs.lookup name = none)
    (h : ∀ q, Q (.ref q) ((q, .raw (methodObj (.ref f) (.ref x))) :: ns)) : At C n L ls ns (.ref x) name Q := fun o' ex ho A h₀ s R G S => by
  obtain rfl := er_ref ho
  obtain ⟨es, k, e, hk, I⟩ := getInst S hi hd
  have hu := (keys_get hk).2 hl
  exact get_bind (S.gd G).X I (plainGet_of hg).1 (findObj_fn hh ha hgf ht hc (by show lookIn name (dictOf es k) = _; rw [lookIn_dict, hu])) (plainGet_of hg).2
    (wpAny_call (fn_get (s := { s with toks := s.toks + 1 }) (S.gd G).X (beq_iff_eq.mp hf) (handed_on rfl (.v (S.alloc (o := .raw (methodObj (.ref f) (.ref x))) rfl) (.of _ _) (h _)))))
end
theorem gm_inst {f : Addr} {Q : Value → List Value → NS → Prop} (hi : (x, PO.inst Cc dx) ∈ ns) (hd : (dx, PO.dict fs) ∈ ns) (hg : plainGet C.K Cc name = true) (hf : findIn C.K (.ref Cc) name = some (some (.ref f))) (ht : isFn C.K (.ref f) = true)
    (hl : fs.lookup name = none) (h : Q (.ref f) [.ref x] ns) : Gm C n L ls ns (.ref x) name Q := fun o' pl ho A h₀ s R G S => by
  obtain rfl := er_ref ho
  obtain ⟨es, k, e, hk, I⟩ := getInst S hi hd
  have hu := (keys_get hk).2 hl
  exact method_fn (S.gd G).X I (plainGet_of hg).1 (plainGet_of hg).2 hf (beq_iff_eq.mp ht) (by show (lookIn name (dictOf es k)).map _ = _; rw [lookIn_dict, hu]; rfl) ⟨ls, ns, S, .refl s, rfl, h⟩

/-- the stores into a made object -/
theorem set_attr {Q : LS → NS → Prop} (hi : (x, PO.inst Cc dx) ∈ ns) (u : Put dx (.dict fs) (.dict (putF name v fs)) ns ns') (hs : findIn C.K (.ref Cc) "__setattr__" = some (some (.builtin "object.__setattr__"))) (hp : plainOver C.K Cc = true) (ht : takerIn C.K Cc name = some none)
    (hh : hasDictIn C.K Cc = true) (hz : fs.length < 1000) (h : Q ls ns') : ∀ v', er v' = v → Un C n L ls ns (setAttr (.ref x) name v') Q := fun v' hv A h₀ s R G S => by
  obtain ⟨es, k, e, hk, I⟩ := getInst S hi u.mem
  obtain ⟨m, all, F, N, ina, _⟩ := S.fake
  have hdL : dx ≠ L := (S.nw _ u.mem).1
  have hsome : (getL name es).isSome = true := by
    obtain ⟨i1, i2⟩ := keys_get (name := name) hk
    cases q : fs.lookup name with
    | none => rw [i2 q]; rfl
    | some w => obtain ⟨u, hu, _⟩ := i1 w q; rw [hu]; rfl
  have N' : News {} L s.heap ((dx, dictOf es k) :: all.filter (fun p => p.1 != dx)) := fun p hp => by
    rcases List.mem_cons.mp hp with rfl | hp
    · exact ⟨e, hdL, none_of_size (Nat.zero_le _)⟩
    · exact N p (List.mem_filter.mp hp).1
  have hz' : (putL name (PyData.keyHash C.w.params name) (.str name (s.toks + 1)) v' es).length ≤ 1000 := by
    have := keys_len (keys_put (name := name) (t := s.toks + 1) hv hk)
    have h2 := putF_len name v fs
    rw [this]; omega
  refine set_plain (S.gd G).X I hs (osa_dict (s := { s with toks := s.toks + 1 }) (pre := []) F N' (S.gd G).X I rfl hp ht hh (by rw [lookIn_dict]; exact hsome) (fun _ h => by cases h) (fun q hq => by simpa using (List.mem_filter.mp hq).2) (putName_dict ..) rfl hz' fun h' F' N2 => ?_)
  have kd := (N2 _ (.head _)).1
  have up : ∀ b o, b ≠ L → b ≠ dx → s.heap.get? b = some o → h'.get? b = some o := fun b o h1 h2 e => (N2 (b, o) (.tail _ (List.mem_filter.mpr ⟨ina b o h1 e, by simpa using h2⟩))).1
  obtain ⟨m0, F0, hl0⟩ := id S.fr
  have em := ns_uniq F.ns F0
  refine ⟨ls, ns', ?_, .of _ _, h⟩
  refine ⟨⟨m0, em ▸ F'.ns, hl0⟩, fun b o q => up b o (fun z => by rw [z, S.nL] at q; cases q) (fun z => by rw [z, (S.nw _ u.mem).2.1] at q; cases q) (S.keep b o q), S.nL, fun q hq => ?_, u.addrs ▸ S.nd⟩
  rcases u.cases S.nd hq with rfl | ⟨z, ne⟩
  · exact ⟨hdL, (S.nw _ u.mem).2.1, _, kd, _, _, rfl, keys_put hv hk⟩
  · obtain ⟨a1, b1, o, e1, w1⟩ := S.nw q z
    exact ⟨a1, b1, o, up _ _ a1 ne e1, w1⟩
theorem as_attr {o : Expr} {Q : LS → NS → Prop} (h : Ev C n env ls ns o fun ov m => ∀ ov' v', er ov' = ov → er v' = v → Un C n env.locals ls m (setAttr ov' name v') Q) : As C n env ls ns (.Attribute o name pos) v Q := fun v' hv A h₀ s R G S => by
  show wpAny C.M A (do
    let ov ← holding [v'] (eval o env)
    standAt pos.atName
    holding [v', ov] (setAttr ov name v')
    release [v', ov] []) _ _ s
  exact wpAny_bind (wpAny_holding (h.run R G S fun ov s1 m S1 k1 q => wpAny_bind (wpAny_standAt (wpAny_bind (wpAny_holding (T.run (q ov v' rfl hv) R G S1 fun _ s2 l m2 S2 k2 q2 => wpAny_release ⟨l, m2, S2, k1.trans k2, q2⟩))))))
theorem as_sub {o i : Expr} {Q : LS → NS → Prop} (h : Ev C n env ls ns o fun ov m => Ev C n env ls m i fun iv m' => ∀ ov' iv' v', er ov' = ov → er iv' = iv → er v' = v → Un C n env.locals ls m' (setItem ov' iv' v') Q) : As C n env ls ns (.Subscript o i pos) v Q := fun v' hv A h₀ s R G S => by
  rw [assign_Subscript]
  exact wpAny_bind (wpAny_holding (h.run R G S fun ov s1 m S1 k1 q => wpAny_bind (wpAny_holding (q.run R G S1 fun iv s2 m2 S2 k2 q2 => wpAny_bind (wpAny_standAt (wpAny_bind (wpAny_holding (T.run (q2 ov iv v' rfl rfl hv) R G S2 fun _ s3 l m3 S3 k3 q3 =>
    wpAny_release ⟨l, m3, S3, k1.trans (k2.trans k3), q3⟩))))))))
theorem x_augSub {o i e : Expr} {op : Operator} {tp : Pos} {Q : Flow → LS → NS → Prop}
    (h : Ev C n env ls ns o fun ov m => Ev C n env ls m i fun iv m1 => Op2 C n env.locals ls m1 getItem ov iv fun old m2 => Ev C n env ls m2 e fun v m3 => Ip C n env.locals ls m3 op old v fun r m4 =>
      ∀ ov' iv' r', er ov' = ov → er iv' = iv → er r' = r → Un C n env.locals ls m4 (setItem ov' iv' r') fun l m5 => Q .next l m5)
    (hi : ∀ ov iv new, augStore i ov iv new = (do holding [new, ov, iv] (setItem ov iv new); release [new, ov, iv] []; Pure.pure .next) := by intros; rfl) : Ex1 C n env ls ns (.AugAssign (.Subscript o i tp) op e pos) Q := fun A h₀ s R G S =>
  wpAny_AugAssign_SubscriptAny (h.run R G S fun ov s1 m S1 k1 q => q.run R G S1 fun iv s2 m2 S2 k2 q2 => (q2 ov iv rfl rfl).run R G S2 fun old s3 m3 S3 k3 q3 => q3.run R G S3 fun v s4 m4 S4 k4 q4 => (q4 old v rfl rfl).run R G S4 fun r s5 m5 S5 k5 q5 =>
    T.run (q5 ov iv r rfl rfl rfl) R G S5 fun _ s6 l m6 S6 k6 q6 => ⟨l, m6, S6, k1.trans (k2.trans (k3.trans (k4.trans (k5.trans k6)))), q6⟩) hi
theorem x_augAttr {o e : Expr} {op : Operator} {tp : Pos} {Q : Flow → LS → NS → Prop}
    (h : Ev C n env ls ns o fun ov m => At C n env.locals ls m ov name fun old m2 => Ev C n env ls m2 e fun v m3 => Ip C n env.locals ls m3 op old v fun r m4 =>
      ∀ ov' r', er ov' = ov → er r' = r → Un C n env.locals ls m4 (setAttr ov' name r') fun l m5 => Q .next l m5) : Ex1 C n env ls ns (.AugAssign (.Attribute o name tp) op e pos) Q := fun A h₀ s R G S =>
  wpAny_AugAssign_AttributeAny (h.run R G S fun ov s1 m S1 k1 q => (q ov true rfl).run R G S1 fun old s3 m3 S3 k3 q3 => q3.run R G S3 fun v s4 m4 S4 k4 q4 => (q4 old v rfl rfl).run R G S4 fun r s5 m5 S5 k5 q5 =>
    T.run (q5 ov r rfl rfl) R G S5 fun _ s6 l m6 S6 k6 q6 => ⟨l, m6, S6, k1.trans (k3.trans (k4.trans (k5.trans k6))), q6⟩)
theorem op_getItem {vs : List Value} {i : Int} {Q : Value → NS → Prop} (hm : HasL ns a vs) (h0 : 0 ≤ i) (hz : vs.length ≤ sizeLine) (hv : vs[i.toNat]? = some v) (h : Q v ns) : Op2 C n L ls ns getItem (.ref a) (I i) Q := fun o k ho hk A h₀ s R G S => by
  obtain rfl := er_ref ho
  obtain ⟨t, rfl⟩ := er_int hk
  exact getItem_list hm h0 hz hv R G S h
theorem op_getItemR {vs : List Value} {i : Int} {Q : Value → NS → Prop} (hm : HasL ns a vs) (h0 : i < 0) (h1 : -(vs.length : Int) ≤ i) (hz : vs.length ≤ sizeLine) (hv : vs[(i + vs.length).toNat]? = some v) (h : Q v ns) : Op2 C n L ls ns getItem (.ref a) (I i) Q := fun o k ho hk A h₀ s R G S => by
  obtain rfl := er_ref ho
  obtain ⟨t, rfl⟩ := er_int hk
  exact getItem_listR hm h0 h1 hz hv R G S h

/-- a made object -/
theorem cd_new {fI : Addr} {Q : Value → NS → Prop} (hm : makesIn C.K Cc = true) (hi : findIn C.K (.ref Cc) "__init__" = some (some (.ref fI))) (hf : isFn C.K (.ref fI) = true)
    (h : ∀ x dx, Cd C n L ls ((x, .inst Cc dx) :: (dx, .dict []) :: ns) (.ref fI) (.ref x :: vs) fun v m => v = .none ∧ Q (.ref x) m) : Cd C (n + 1) L ls ns (.ref Cc) vs Q := fun vs' A h₀ s hvs R G S => by
  obtain ⟨hp, g, d, t, os⟩ := s
  refine make_core (makes_of (S.gd G).X hm) (looks_findIn (S.gd G).X hi) (fun self => bind_fn (S.gd G).X self (beq_iff_eq.mp hf)) (.inl rfl) ?_
  have S1 : St C h₀ L ls ((hp.objs.size, .dict []) :: ns) (hp.push emptyDict) := S.alloc (o := .dict []) ⟨[], 0, rfl, trivial⟩
  have S2 := S1.alloc (o := .inst Cc hp.objs.size) (x := instObj Cc hp.objs.size) rfl
  rw [Heap.size_push] at S2
  have R' : Rm n (A.under (.builtin "type.__call__" ⟨.ref Cc :: vs', []⟩)) := ⟨by have := R.d; rw [depth_under_make]; omega, by have := R.u; rw [units_under_make]; omega, R.hh⟩
  refine codeAny_mono (h (hp.objs.size + 1) hp.objs.size (.ref (hp.objs.size + 1) :: vs') _ h₀ ⟨_, g, d, t, os⟩ (by simp [er, hvs]) R' G S2) fun r s' q => ?_
  obtain ⟨v, rfl, q⟩ := q
  obtain ⟨l, m, S3, k3, rfl, hv, q⟩ := q
  have hv' := er_none hv
  subst hv'
  exact ⟨rfl, _, rfl, l, m, S3, (Later.of (s := ⟨hp, g, d, t, os⟩) _ t).trans k3, rfl, q⟩
end
section
variable {C : Cx} {n : Nat} {L : Addr} {ls : LS} {ns ns' ns1 ns2 : NS} {env : Env} {pos p px py : Pos} {value slice : Expr} {a b : Addr} {vs ws : List Value} {x y : Str}

theorem bin_mul_list {i : Int} {Q : Value → NS → Prop} (ha : HasL ns a vs) (h0 : -(2^63 : Int) ≤ i) (h1 : i < 2^63) (hz : vs.length * i.toNat ≤ 256) (h : ∀ c, Q (.ref c) ((c, .list (List.replicate i.toNat vs).flatten) :: ns)) :
    Bin C n L ls ns .Mult (.ref a) (I i) Q := fun u v hu hv A h₀ s R G S => by
  obtain rfl := er_ref hu; obtain ⟨t, rfl⟩ := er_int hv
  obtain ⟨xs, k, e, hx, hxs⟩ := getList S ha
  obtain ⟨m, all, F, N, ina, back⟩ := S.fake
  have hx' : s.heap.IsList a xs.toList.toArray := by simpa using hx
  have hlen : xs.toList.length = vs.length := by rw [← hxs]; simp
  refine KMa.mul F N hx' h0 h1 (by rw [hlen]; exact hz) rfl fun D h' F' N' hD => ?_
  have hn := N' _ (.head _)
  refine .v ((back h' F' fun p hp => (N' p (.tail _ hp)).1).push' (o := .list (List.replicate i.toNat vs).flatten) (h := s.heap) S hn.1 ?_ hn.2.1 ⟨_, 0, rfl, ?_⟩) (.of _ _) (h _)
  · cases q : s.heap.get? D with
    | none => rfl
    | some o => exact absurd (hD (D, o) (ina D o hn.2.1 q)) (Nat.lt_irrefl _)
  · simp [List.map_flatten, hxs]

/-! data -/
mutual
inductive Rd (ns : NS) : Value → PyData → Prop
  | int (i : Int) : Rd ns (I i) (.int i)
  | str (x : Str) : Rd ns (Mine.S x) (.str x)
  | list {a vs ds} : HasL ns a vs → RdA ns vs ds → Rd ns (.ref a) (.list ds)
  | tup {a vs ds} : (a, PO.tup vs) ∈ ns → RdA ns vs ds → Rd ns (.ref a) (.tuple ds)
inductive RdA (ns : NS) : List Value → List PyData → Prop
  | nil : RdA ns [] []
  | cons {v d vs ds} : Rd ns v d → RdA ns vs ds → RdA ns (v :: vs) (d :: ds)
end
theorem rd_ints : ∀ xs : List Int, RdA ns (xs.map I) (xs.map PyData.int)
  | [] => .nil
  | x :: r => .cons (.int x) (rd_ints r)
theorem Rd.reads {h₀ h : Heap} (Z : St C h₀ L ls ns h) {v : Value} {d : PyData} (r : Rd ns v d) : ∀ u, er u = v → ∃ as, Reads h u d as := by
  refine Rd.rec (motive_1 := fun v d _ => ∀ u, er u = v → ∃ as, Reads h u d as) (motive_2 := fun vs ds _ => ∀ us : List Value, us.map er = vs → ∃ as, ReadsAll h us ds as) ?_ ?_ ?_ ?_ ?_ ?_ r
  · intro i u hu; obtain ⟨t, rfl⟩ := er_int hu; exact ⟨_, .int i t⟩
  · intro x u hu; obtain ⟨t, rfl⟩ := er_str hu; exact ⟨_, .str x t⟩
  · intro a vs ds hm _ ih u hu
    obtain rfl := er_ref hu
    obtain ⟨xs, k, e, hx, hxs⟩ := getList Z hm
    obtain ⟨as, r⟩ := ih xs.toList hxs
    exact ⟨_, .list e rfl rfl r⟩
  · intro a vs ds hm _ ih u hu
    obtain rfl := er_ref hu
    obtain ⟨xs, k, e, hx, hxs⟩ := getTup Z hm
    obtain ⟨as, r⟩ := ih xs.toList hxs
    exact ⟨_, .tuple e rfl rfl r⟩
  · intro us hu
    cases us with
    | nil => exact ⟨_, .nil⟩
    | cons u r => cases hu
  · intro v d vs ds _ _ ih1 ih2 us hu
    cases us with
    | nil => cases hu
    | cons u r =>
      simp only [List.map_cons, List.cons.injEq] at hu
      obtain ⟨as, r1⟩ := ih1 u hu.1
      obtain ⟨bs, r2⟩ := ih2 r hu.2
      exact ⟨_, .cons r1 r2⟩
theorem cmp_eq_data {va vb : Value} {da db : PyData} {Q : Value → NS → Prop} (hn : 4 ≤ n) (ra : Rd ns va da) (rb : Rd ns vb db) (ha : SeqAt.shaped da = true) (hb : SeqAt.shaped db = true) (h : Q (.bool (PyData.eqv da db)) ns) :
    Cmp C n L ls ns .Eq va vb Q := fun u v hu hv A h₀ s R G Z => by
  obtain ⟨as, r1⟩ := ra.reads Z u hu
  obtain ⟨bs, r2⟩ := rb.reads Z v hv
  exact eq_dataH r1 r2 ha hb (by have := R.u; omega) (.v Z (.refl _) h)
theorem cmp_ne_data {va vb : Value} {da db : PyData} {Q : Value → NS → Prop} (hn : 4 ≤ n) (ra : Rd ns va da) (rb : Rd ns vb db) (ha : SeqAt.shaped da = true) (hb : SeqAt.shaped db = true) (h : Q (.bool (!PyData.eqv da db)) ns) :
    Cmp C n L ls ns .NotEq va vb Q := fun u v hu hv A h₀ s R G Z => by
  obtain ⟨as, r1⟩ := ra.reads Z u hu
  obtain ⟨bs, r2⟩ := rb.reads Z v hv
  exact ne_dataH r1 r2 ha hb (by have := R.u; omega) (.v Z (.refl _) h)

/-! zip -/
abbrev zipO (TI TO : Addr) : Obj := { cls := .type "zip", dict := none, data := .fields #[.none, .bool false, .bool false, .ref TI, .ref TO], slots := #[] }
abbrev pairO (a b : Value) : Obj := { cls := .type "tuple", data := .seq #[a, b] }
def IterO (o : Obj) (l : Addr) : Prop := o.cls = .type "list_iterator" ∧ o.data = .fields #[.ref l, .int 0 0]
theorem cl_zip {Q : Value → NS → Prop} (ha : HasL ns a vs) (hb : HasL ns b ws)
    (h : ∀ z TI TO i1 i2 o1 o2, IterO o1 a → IterO o2 b → Q (.ref z) ((z, .raw (zipO TI TO)) :: (TI, .raw (pairO (.ref i1) (.ref i2))) :: (TO, .raw (pairO .none .none)) :: (i1, .raw o1) :: (i2, .raw o2) :: ns)) :
    Cl C n L ls ns (.type "zip") [.ref a, .ref b] Q := fun vs' hvs A h₀ s R G S => by
  obtain ⟨a', b', rfl, e1, e2⟩ := map_er2 hvs
  obtain rfl := er_ref e1; obtain rfl := er_ref e2
  obtain ⟨xs, _, _, hx, _⟩ := getList S ha
  obtain ⟨ys, _, _, hy, _⟩ := getList S hb
  refine call_zip_2 hx hy fun h' hz hTI hTO h1 h2 hsz hk => ?_
  obtain ⟨o1, g1, c1, d1⟩ := h1
  obtain ⟨o2, g2, c2, d2⟩ := h2
  have S' := S.ext hk
  have fresh : ∀ k, s.heap.get? (s.heap.objs.size + k) = none := fun k => none_of_size (Nat.le_add_right _ _)
  have neL : ∀ k, s.heap.objs.size + k ≠ L := fun k => Nat.ne_of_gt (Nat.lt_of_lt_of_le S.ltL (Nat.le_add_right _ _))
  have base : ∀ k, h₀.get? (s.heap.objs.size + k) = none := fun k => by
    cases q : h₀.get? (s.heap.objs.size + k) with
    | none => rfl
    | some o => have := S.keep _ _ q; rw [fresh] at this; cases this
  refine .v ⟨S'.fr, S'.keep, S'.nL, fun p hp => ?_, ?_⟩ (.of _ _) (h _ (s.heap.objs.size + 2) (s.heap.objs.size + 3) (s.heap.objs.size + 0) (s.heap.objs.size + 1) o1 o2 ⟨c1, d1⟩ ⟨c2, d2⟩)
  · simp only [List.mem_cons] at hp
    rcases hp with rfl | rfl | rfl | rfl | rfl | hp
    · exact ⟨neL 4, base 4, _, hz, rfl⟩
    · exact ⟨neL 2, base 2, _, hTI, rfl⟩
    · exact ⟨neL 3, base 3, _, hTO, rfl⟩
    · exact ⟨neL 0, base 0, _, g1, rfl⟩
    · exact ⟨neL 1, base 1, _, g2, rfl⟩
    · exact S'.nw p hp
  · have lt : ∀ k, s.heap.objs.size + k ∉ ns.map (·.1) := fun k q => by
      obtain ⟨p, hp, e⟩ := List.mem_map.mp q
      obtain ⟨_, _, o, eo, _⟩ := S.nw p hp
      have := Heap.lt_size eo
      rw [e] at this
      exact absurd this (Nat.not_lt.mpr (Nat.le_add_right _ _))
    simp only [List.map_cons, List.nodup_cons, List.mem_cons, not_or]
    refine ⟨⟨?_, ?_, ?_, ?_, lt 4⟩, ⟨?_, ?_, ?_, lt 2⟩, ⟨?_, ?_, lt 3⟩, ⟨?_, lt 0⟩, lt 1, S.nd⟩ <;> exact fun q => absurd (Nat.add_left_cancel q) (by decide)
theorem tup_at {es : List Expr} {k : Nat} {T : Addr} {xs : Array Value} {A : Around} {s : Shared} {Q' : Unit → Shared → Prop} (hT : IsTup s.heap T xs) (hl : es.length = xs.size) (he : assignEach es env = es.map fun e => (false, assign e env))
    (hh : A.handled = none) (h : ∀ h', (∀ b o, s.heap.get? b = some o → h'.get? b = some o) → wpAny C.M A (assignInOrder (es.map fun e => assign e env) xs.toList) Q' Bot { s with heap := h' }) : wpAny C.M A (assign (.Tuple es k p) env (.ref T)) Q' Bot s := by
  rw [assign_Tuple]
  unfold unpack
  rw [he]
  have e1 : (es.map fun e => (false, assign e env)).findIdx? (·.1) = none := by
    rw [List.findIdx?_eq_none_iff]; intro q hq; obtain ⟨e, _, rfl⟩ := List.mem_map.mp hq; rfl
  rw [e1, List.length_map, hl, List.map_map]
  exact wpAny_bind (wpAny_standAt (wpAny_bind (wpAny_holding (unpackItems_tuple hh hT fun h' hk => h h' fun b o e => hk b o (Nat.ne_of_lt (Heap.lt_size e)) e))))
def zipL (x y : Str) (vs ws : List Value) : List LS := (vs.zip ws).map fun p => [(y, p.2), (x, p.1)]
theorem itr_zip {z TI TO i1 i2 : Addr} {o1 o2 : Obj} {k : Nat} {Q : List LS → NS → NS → Prop} (h1 : IterO o1 a) (h2 : IterO o2 b) (ua : Sel a (.list vs) ns ns1) (ub : Sel b (.list ws) ns1 ns2) (h : Q (zipL x y vs ws) [(a, .list vs), (b, .list ws)] ns2) :
    Itr C n L ls ((z, .raw (zipO TI TO)) :: (TI, .raw (pairO (.ref i1) (.ref i2))) :: (TO, .raw (pairO .none .none)) :: (i1, .raw o1) :: (i2, .raw o2) :: ns) (.Tuple [.Name x px, .Name y py] k p) (.ref z) Q := fun xv' hx A h₀ s R G S => by
  obtain rfl := er_ref hx
  have pr : ((a, PO.list vs) :: (b, .list ws) :: ns2).Perm ns := (ub.perm.cons _).trans ua.perm
  have S := S.perm (((((pr.cons _).cons _).cons _).cons _).cons _)
  obtain ⟨_, gz, rfl⟩ := S.get (.head _)
  obtain ⟨_, gI, rfl⟩ := S.get (.tail _ (.head _))
  obtain ⟨_, gO, rfl⟩ := S.get (.tail _ (.tail _ (.head _)))
  obtain ⟨_, g1, e1⟩ := S.get (.tail _ (.tail _ (.tail _ (.head _))))
  rw [show _ = o1 from e1] at g1
  obtain ⟨_, g2, e2⟩ := S.get (.tail _ (.tail _ (.tail _ (.tail _ (.head _)))))
  rw [show _ = o2 from e2] at g2
  obtain ⟨xs, _, ea, hxs, hvs⟩ := getList S (a := a) (vs := vs) (.list (by simp))
  obtain ⟨ys, _, eb, hys, hws⟩ := getList S (a := b) (vs := ws) (.list (by simp))
  have nd := S.nd
  simp only [List.map_cons, List.nodup_cons, List.mem_cons, not_or] at nd
  obtain ⟨⟨n1, n2, n3, n4, n5, n6, n7⟩, ⟨n8, n9, n10, n11, n12, n13⟩, ⟨n14, n15, n16, n17, n18⟩, ⟨n19, n20, n21, n22⟩, ⟨n23, n24, n25⟩, ⟨n26, n27⟩, n28, _⟩ := nd
  have D : ZipApart z TI TO i1 i2 a b := ⟨(Ne.symm n1), (Ne.symm n2), (Ne.symm n3), (Ne.symm n4), n8, n9, n10, n14, n15, n19, (Ne.symm n5), (Ne.symm n16), (Ne.symm n20), (Ne.symm n23), (Ne.symm n6), (Ne.symm n17), (Ne.symm n21), (Ne.symm n24)⟩
  have hlx : xs.size = vs.length := er_size hvs
  have hly : ys.size = ws.length := er_size hws
  have WT := fun (A : Around) (hh : A.handled = none) => WalksT.zip2 (prog := C.prog) (w := C.w) hh z TI TO i1 i2 a b D xs ys
  have hlen : (zipL x y vs ws).length = min xs.size ys.size := by unfold zipL; rw [List.length_map, List.length_zip, hlx, hly]
  have hmem : ∀ c ∈ [z, TI, TO, i1, i2, a, b], h₀.get? c = none ∧ c ≠ L := fun c hc => by
    have go : ∀ q ∈ ((z, PO.raw (zipO TI TO)) :: (TI, .raw (pairO (.ref i1) (.ref i2))) :: (TO, .raw (pairO .none .none)) :: (i1, .raw o1) :: (i2, .raw o2) :: (a, .list vs) :: (b, .list ws) :: ns2 : NS), h₀.get? q.1 = none ∧ q.1 ≠ L := fun q hq => ⟨(S.nw q hq).2.1, (S.nw q hq).1⟩
    simp only [List.mem_cons, List.mem_nil_iff, or_false] at hc
    rcases hc with rfl | rfl | rfl | rfl | rfl | rfl | rfl <;> exact go (_, _) (by repeat first | exact .head _ | apply List.Mem.tail)
  refine wpAny_pyIter_zip (TI := TI) (TO := TO) (f0 := .none) gz ⟨[z, TI, TO, i1, i2, a, b], [z, TO, i1, i2], zipL x y vs ws, (fun i h => IsZip h z TI TO .none ∧ IsPair h TI (.ref i1) (.ref i2) ∧ (∃ a b, IsPair h TO a b) ∧ h.IsListIter i1 a i ∧ h.IsListIter i2 b i ∧ h.IsList a xs ∧ h.IsList b ys), [(a, .list vs), (b, .list ws)], ns2, ?_, ⟨gz, gI, ⟨_, _, gO⟩, ⟨_, g1, h1.1, h1.2⟩, ⟨_, g2, h2.1, h2.2⟩, hxs, hys⟩, fun q => (hmem L q).2 rfl, ?_, ?_, fun c hc => (hmem c ?_).1, S.sub ?_, .refl s, h⟩
  · refine ⟨(WT { } rfl).sub, fun i h st c hc => ?_, (WT { } rfl).frame, ?_, ?_, fun i A s Q hh hW hQ => (WT A hh).self i s Q _ hW hQ⟩
    · obtain ⟨q1, q2, ⟨_, _, q3⟩, ⟨_, q4, _⟩, ⟨_, q5, _⟩, ⟨_, q6, _⟩, ⟨_, q7, _⟩⟩ := st
      simp only [List.mem_cons, List.mem_nil_iff, or_false] at hc
      rcases hc with rfl | rfl | rfl | rfl | rfl | rfl | rfl <;> exact ⟨_, by assumption⟩
    · intro A h₀ s i bs ls ns env R G he ht S hi hW hL hn h0
      have w' := WT A R.hh
      have hlt : i < min xs.size ys.size := by
        rw [← hlen]
        rcases Nat.lt_or_ge i (zipL x y vs ws).length with q | q
        · exact q
        · rw [List.getElem?_eq_none q] at hi; cases hi
      refine w'.item i s _ _ hlt hW fun T vals h' tk hP hT hTup hM hk => ⟨_, rfl, ?_⟩
      obtain ⟨u, v, hu, hv, rfl⟩ := hP
      have hbs : bs = [(y, er v), (x, er u)] := by
        unfold zipL at hi
        rw [List.getElem?_map, ← hvs, ← hws] at hi
        have : ((xs.toList.map er).zip (ys.toList.map er))[i]? = some (er u, er v) := by
          rw [List.getElem?_zip_eq_some]
          simp [hu, hv]
        rw [this] at hi
        exact (Option.some.inj hi).symm
      subst hbs
      have S' : St C h₀ env.locals ls ns h' := S.wr hk (fun q => hL (w'.sub _ q)) hn h0
      refine w'.go _ _ _ i T _ _ _ hM fun h2 W2 hk2 => ?_
      have S2 : St C h₀ env.locals ls ns h2 := S'.wr hk2 (fun q => hL (w'.sub _ q)) hn h0
      have hTup2 : IsTup h2 T #[u, v] := by obtain ⟨o, e, r⟩ := hTup; exact ⟨o, hk2 _ _ (w'.apart _ _ _ hM) e, r⟩
      refine tup_at hTup2 rfl rfl R.hh fun h3 k3 => ?_
      have S3 : St C h₀ env.locals ls (ns ++ []) h3 := by rw [List.append_nil]; exact S2.ext k3
      obtain ⟨g, up, dn, Sg, all⟩ := S3.over
      have as : AsL C n env ls [] [.Name x px, .Name y py] [er u, er v] fun l m => l = (y, er v) :: (x, er u) :: ls ∧ m = [] := as_name he ht.1 (as_name he ht.2 ⟨rfl, rfl⟩)
      refine Mine.T.run (asL_run as rfl) R (G.keeps up) (s := { s with heap := h3, toks := tk }) Sg fun _ s4 l m S4 k4 q4 => ?_
      obtain ⟨rfl, rfl⟩ := q4
      refine ⟨(Later.of _ _).trans k4, by have := S3.back up all S4; rw [List.append_nil] at this; exact this, w'.frame _ _ _ W2 fun b hb o e => S4.keep _ _ (all b o (fun q => hL (q ▸ hb)) (fun p hp => by cases hp) (k3 _ _ e))⟩
    · intro A h₀ s ls ns L R G S hW hL hn h0
      rw [hlen] at hW
      exact (WT A R.hh).done s _ _ hW fun h' tk hk => ⟨rfl, .of _ _, S.wr hk hL hn h0⟩
  · intro q hq c
    have hq' := List.mem_map_of_mem (f := (·.1)) hq
    simp only [List.mem_cons, List.mem_nil_iff, or_false] at c
    rcases c with e | e | e | e | e | e | e <;> (rw [e] at hq'; contradiction)
  · intro q hq
    simp only [List.mem_cons, List.mem_nil_iff, or_false] at hq
    rcases hq with rfl | rfl
    · exact ⟨by simp, by simp; exact ⟨(Ne.symm n5), (Ne.symm n16), (Ne.symm n20), (Ne.symm n23)⟩⟩
    · exact ⟨by simp, by simp; exact ⟨(Ne.symm n6), (Ne.symm n17), (Ne.symm n21), (Ne.symm n24)⟩⟩
  · simp only [List.mem_cons, List.mem_nil_iff, or_false] at hc ⊢
    rcases hc with rfl | rfl | rfl | rfl <;> simp
  · exact ((((List.sublist_cons_self _ _).trans (List.sublist_cons_self _ _)).trans (List.sublist_cons_self _ _)).trans (List.sublist_cons_self _ _)).trans (List.sublist_cons_self _ _)
end
theorem free_cell {o : Obj} {u : Option Value} (h : o.data = .cell u) : o.isFreed = false := by
  obtain ⟨_, _, d, _⟩ := o
  dsimp only at h
  subst h
  rfl

section
variable {C : Cx} {n : Nat} {L : Addr} {ls : LS} {ns ns' ns1 ns2 : NS} {env : Env} {pos p px py : Pos} {value slice : Expr} {a b c : Addr} {vs ws : List Value} {x y : Str} {v : Value}

/-! cells -/
theorem getCell {h₀ h : Heap} {v : Option Value} (S : St C h₀ L ls ns h) (hm : (c, PO.cell v) ∈ ns) : ∃ u, h.IsCell c u ∧ u.map er = v := by
  obtain ⟨o, e, u, hd, hu, _⟩ := S.get hm
  exact ⟨u, ⟨o, e, hd⟩, hu⟩
theorem ev_cell {Q : Value → NS → Prop} (he : FnEnv env) (hk : env.kindOf x = some .cell) (hc : env.cells.lookup x = some c) (hm : (c, PO.cell (some v)) ∈ ns) (h : Q v ns) (hb : (x == ("__debug__" : Str)) = false := by decide) : Ev C n env ls ns (.Name x pos) Q :=
  fun A h₀ s R G S => by
    obtain ⟨u, hcell, hu⟩ := getCell S hm
    obtain ⟨w, rfl, hw⟩ := Option.map_eq_some_iff.mp hu
    exact wpAny_Name (wpAny_loadName_cell he.k hk hc hcell (.v S (.refl _) (hw ▸ h))) hb
theorem ev_free {Q : Value → NS → Prop} (he : FnEnv env) (hk : env.kindOf x = some .free) (hc : env.cells.lookup x = some c) (hm : (c, PO.cell (some v)) ∈ ns) (h : Q v ns) (hb : (x == ("__debug__" : Str)) = false := by decide) (hn : (x == ("__classdict__" : Str)) = false := by decide) : Ev C n env ls ns (.Name x pos) Q :=
  fun A h₀ s R G S => by
    obtain ⟨u, hcell, hu⟩ := getCell S hm
    obtain ⟨w, rfl, hw⟩ := Option.map_eq_some_iff.mp hu
    exact wpAny_Name (wpAny_loadName_free he.k hk hc hcell (.v S (.refl _) (hw ▸ h)) hn) hb
theorem as_cell {v₀ : Option Value} {Q : LS → NS → Prop} (he : FnEnv env) (hk : env.kindOf x = some .cell) (hc : env.cells.lookup x = some c) (u : Put c (.cell v₀) (.cell (some v)) ns ns') (h : Q ls ns') : As C n env ls ns (.Name x p) v Q :=
  fun v' hv A h₀ s R G S => by
    obtain ⟨w, hcell, _⟩ := getCell S u.mem
    refine assign_Name (wpAny_storeName_cell he.k hk hc hcell fun h' hv' hs => ?_)
    obtain ⟨o, e, hd⟩ := hv'
    exact ⟨ls, ns', S.put u (fun b x hb e => (hs.2 b hb).trans e) e ⟨_, hd, by rw [← hv]; rfl, free_cell hd⟩, .of _ _, h⟩

/-! octets of bytes, one by one -/
def octetsL (x : Str) (t : Array UInt8) : List LS := t.toList.map fun c => [(x, I c.toNat)]
theorem itr_bytes {t : Array UInt8} {Q : List LS → NS → NS → Prop} (h : Q (octetsL x t) [] ns) : Itr C n L ls ns (.Name x px) (Y t) Q := fun xv' hx A h₀ s R G Z => by
  obtain ⟨tk, rfl⟩ := er_bytes hx
  refine KBw.pyIter_bytes ⟨[s.heap.objs.size], [s.heap.objs.size], _, fun i h => KBw.IsBytesIter h s.heap.objs.size t tk i, [], ns, ?_, ⟨_, Heap.get?_push_size _ rfl, rfl, rfl⟩, ?_, ?_, ?_, ?_, Z.ext fun _ _ e => Heap.get?_push_of_some _ e, .of _ s.toks, h⟩
  · have e : octetsL x t = (t.toList.map fun c => I c.toNat).map fun v => [(x, v)] := by unfold octetsL; rw [List.map_map]; rfl
    rw [e]
    refine Wk.of (P := fun i v => ∃ c u, t[i]? = some c ∧ v = .int (c.toNat : Int) u) (fun A hh => ?_) (fun k h st b hb => ?_) fun k v hP => ?_
    · rw [List.length_map, Array.length_toList]; exact KBw.walks hh _ t tk
    · obtain ⟨o, e, _⟩ := st; exact ⟨o, (List.mem_singleton.mp hb) ▸ e⟩
    · obtain ⟨c, u, hc, rfl⟩ := hP
      rw [List.getElem?_map, Array.getElem?_toList, hc]; rfl
  · intro q; exact Nat.ne_of_lt Z.ltL (List.mem_singleton.mp q)
  · intro p hp q
    obtain ⟨_, _, o, e, _⟩ := Z.nw p hp
    exact Nat.ne_of_lt (Heap.lt_size e) (List.mem_singleton.mp q)
  · intro p hp; cases hp
  · intro b hb
    rw [List.mem_singleton.mp hb]
    cases q : h₀.get? s.heap.objs.size with
    | none => rfl
    | some o => exact absurd (Heap.lt_size (Z.keep _ _ q)) (Nat.lt_irrefl _)

/-! loops over an iterator of the ledger -/
def Fg (C : Cx) (n : Nat) (env : Env) (ls : LS) (ns : NS) (target : Expr) (it : Value) (body : List Stmt) (Q : Flow → LS → NS → Prop) : Prop :=
  ∀ A h₀ s s₀, Rm n A → Gd C h₀ → St C h₀ env.locals ls ns s.heap → Later s₀ s → codeAny C.M A (.forLoop target it body [] env) (toFlow (C := C) h₀ env.locals s₀ Q) s
theorem x_forG {iter target : Expr} {body : List Stmt} {Q : Flow → LS → NS → Prop} (h : Ev C n env ls ns iter fun xv m => Op1 C n env.locals ls m pyIter xv fun iv m' => ∃ a, iv = .ref a ∧ Fg C n env ls m' target (.ref a) body Q)
    (hs : ∀ x, foldedSetIterable iter env x = Pure.pure x := by intro _; rfl) : Ex1 C n env ls ns (.For target iter body [] pos) Q :=
  fun A h₀ s R G S => wpAny_For (h.run R G S fun xv s1 m S1 k1 q => (q xv rfl).run R G S1 fun iv s2 m2 S2 k2 q2 => by
    obtain ⟨a, ha, q2⟩ := q2
    obtain rfl := er_ref ha
    refine codeAny_mono (q2 A h₀ s2 s R G S2 (k1.trans k2)) fun r s' z => ?_
    cases r with
    | ok f => exact z
    | error e => exact z.elim) hs
/-- a step of an iterator: its end, its next value -/
def Nx (C : Cx) (n : Nat) (L : Addr) (ls : LS) (ns : NS) (it : Value) (Qn : NS → Prop) (Qs : Value → NS → Prop) : Prop :=
  T C n L ls ns (pyNext it) fun r l m => l = ls ∧ match r with | none => Qn m | some v => Qs (er v) m
theorem fg_step {target : Expr} {it : Value} {body : List Stmt} {Q : Flow → LS → NS → Prop} (h : Nx C n env.locals ls ns it (fun m => Q .next ls m) fun v m => As C n env ls m target v fun l m' => Ex C n env l m' body (loopEnd (fun l m => Fg C n env l m target it body Q) Q))
    (hg : ∀ v, letOwnedTupleGo target it v = Pure.pure () := by intro _; rfl) : Fg C n env ls ns target it body Q := fun A h₀ s s₀ R G S k => by
  refine forStep (T.run h R G S fun r s1 l m S1 k1 q => ?_)
  obtain ⟨rfl, q⟩ := q
  cases r with
  | none => exact ⟨l, m, S1, k.trans k1, q⟩
  | some v =>
    show wpAny C.M A (letOwnedTupleGo target it v) _ _ s1
    rw [hg]
    refine wpAny_pure (T.run (q v rfl) R G S1 fun _ s2 l2 m2 S2 k2 q2 => T.run q2 R G S2 fun f s3 l3 m3 S3 k3 q3 => ?_)
    have kk := k.trans (k1.trans (k2.trans k3))
    cases f with
    | next => exact q3 A h₀ s3 s₀ R G S3 kk
    | cont => exact q3 A h₀ s3 s₀ R G S3 kk
    | brk => exact ⟨l3, m3, S3, kk, q3⟩
    | ret v => exact ⟨l3, m3, S3, kk, q3⟩

/-- list += list -/
theorem fillsI_list : fillsInplaceSlot (.type "list") "add" true = Pure.pure false := by
  unfold fillsInplaceSlot
  show (typeLookup (.type "list") (dunderI "add") >>= fun fi => Pure.pure (fi.isSome && !isSeqSlot fi)) = Pure.pure false
  rw [PySem.F.slot_list_iadd.lookup]; kernel_rfl
theorem seqI_list : seqSlot? (.type "list") (dunderI "add") = Pure.pure (some (.builtin "list.__iadd__")) := by
  unfold seqSlot?
  rw [PySem.F.slot_list_iadd.lookup]; kernel_rfl
theorem ip_add_list {Q : Value → NS → Prop} (u : Put a (.list vs) (.list (vs ++ ws)) ns ns') (hb : HasL ns b ws) (hz : vs.length + ws.length ≤ 65536) (h : Q (.ref a) ns') : Ip C n L ls ns .Add (.ref a) (.ref b) Q := fun u' v' hu hv A h₀ s R G S => by
  obtain rfl := er_ref hu; obtain rfl := er_ref hv
  obtain ⟨xs, k, e, hx, hxs⟩ := getList S (.list u.mem)
  obtain ⟨ys, k', e', hy, hys⟩ := getList S hb
  have s1 := er_size hxs
  have s2 := er_size hys
  unfold inplaceOp
  refine wpAny_holding ?_
  refine wpAny_bind (wpAny_typeOf hx.typeIs (wpAny_bind (wpAny_of_eq fillsI_list ?_)))
  show wpAny _ _ (if false = true then _ else _) _ _ s
  rw [if_neg Bool.false_ne_true]
  refine wpAny_bind (wpAny_binaryOp1_none (nm := "add") hx.typeIs hy.typeIs noFill_list_add ?_)
  refine wpAny_bind (wpAny_of_eq seqI_list ?_)
  refine wpAny_bind (wpAny_rule ?_)
  have sl : sizeLine = 16777216 := by rfl
  refine (call_meets PySem.F.slot_list_iadd hx.typeIs PySem.F.entry_list_iadd (PySem.F.args_list_iadd_2 _ _) (PySem.AutoSeq1.list___iadd___list_list_0 a xs k b ys k' ?_ ?_ ?_) ⟨e, e', .v (S.seq u e (· ++ ys) (by simp [hxs, hys])) (.of _ s.toks) h⟩)
  · simp [Builtin.List.listTooLong]; omega
  · rw [sl]; omega
  · rw [sl]; omega
end
theorem lookup_er {x : Str} : ∀ {r : List (Str × Value)} {v : Value}, (r.map fun p => (p.1, er p.2)).lookup x = some v → ∃ u, r.lookup x = some u ∧ er u = v
  | [], _, e => by cases e
  | (y, u) :: r, v, e => by
    rw [List.map_cons, List.lookup_cons] at e
    rw [List.lookup_cons]
    by_cases hy : x == y
    · simp only [hy] at e ⊢; exact ⟨u, rfl, Option.some.inj e⟩
    · simp only [hy] at e ⊢; exact lookup_er e
theorem bindL_eq {k : Str → Option NameKind} : ∀ {b : List (Str × Value)} {m : Str → Option Value}, (∀ y ∈ b, k y.1 = some .local) → ∀ x, bindL k b m x = (b.reverse.lookup x).or (m x)
  | [], m, _, x => by simp [bindL]
  | (y, v) :: r, m, h, x => by
    rw [bindL, bindL_eq (fun z hz => h z (.tail _ hz)), if_pos (h _ (.head _)), List.reverse_cons, List.lookup_append]
    cases r.reverse.lookup x with
    | some w => rfl
    | none =>
      by_cases hy : x = y
      · subst hy; simp
      · have : (x == y) = false := by simpa using hy
        simp [hy, List.lookup_cons, this]
theorem bindC_eq {k : Str → Option NameKind} : ∀ {b : List (Str × Value)} {m : Str → Option Value}, (∀ y ∈ b, k y.1 = some .local) → bindC k b m = m
  | [], m, _ => rfl
  | (y, v) :: r, m, h => by rw [bindC, if_pos (h _ (.head _)), bindC_eq fun z hz => h z (.tail _ hz)]

section
variable {C : Cx} {n : Nat} {L : Addr} {ls : LS} {ns ns' ns1 ns2 : NS} {env : Env} {pos p px py : Pos} {value slice : Expr} {a b c : Addr} {vs ws : List Value} {x y : Str} {v : Value}

/-- what a caller's heap becomes for the callee: all but the ledger -/
theorem St.down {h₀ h : Heap} (S : St C h₀ L ls ns h) : (∀ b o, h₀.get? b = some o → (hideAll h (ns.map (·.1))).get? b = some o) ∧ (∀ o, h.get? L = some o → (hideAll h (ns.map (·.1))).get? L = some o) := by
  refine ⟨fun b o e => hideAll_get _ (S.keep b o e) fun q => ?_, fun o e => hideAll_get _ e fun q => ?_⟩
  · obtain ⟨p, hp, rfl⟩ := List.mem_map.mp q
    rw [(S.nw p hp).2.1] at e; cases e
  · obtain ⟨p, hp, e⟩ := List.mem_map.mp q
    exact (S.nw p hp).1 e
theorem St.enter {h₀ h h₁ : Heap} {L' : Addr} {binds : LS} {m : Str → Option Value} {own : NS} (S : St C h₀ L ls ns h) (hL : h.get? L' = none) (hns : h₁.Ns L' m) (hb : ∀ x v, binds.lookup x = some v → ∃ u, m x = some u ∧ er u = v)
    (k : ∀ b o, h.get? b = some o → h₁.get? b = some o) (ho : ∀ p ∈ own, p.1 ≠ L' ∧ h.get? p.1 = none ∧ ∃ o, h₁.get? p.1 = some o ∧ p.2.is C.w.params o) (nd : (own.map (·.1)).Nodup) : St C (hideAll h (ns.map (·.1))) L' binds (own ++ ns) h₁ := by
  refine ⟨⟨m, hns, hb⟩, fun b o e => k _ _ (of_hideAll _ e), ?_, fun p hp => ?_, ?_⟩
  · cases e : (hideAll h (ns.map (·.1))).get? L' with
    | none => rfl
    | some o => have := of_hideAll _ e; rw [hL] at this; cases this
  · rcases List.mem_append.mp hp with hp | hp
    · obtain ⟨a1, a2, a3⟩ := ho p hp
      refine ⟨a1, ?_, a3⟩
      cases e : (hideAll h (ns.map (·.1))).get? p.1 with
      | none => rfl
      | some o => have := of_hideAll _ e; rw [a2] at this; cases this
    · obtain ⟨_, _, o, e, w⟩ := S.nw p hp
      exact ⟨fun q => (by rw [← q, e] at hL; cases hL), hideAll_none _ (List.mem_map_of_mem hp), o, k _ _ e, w⟩
  · rw [List.map_append]
    refine List.nodup_append.mpr ⟨nd, S.nd, fun a ha b hb e => ?_⟩
    subst e
    obtain ⟨p, hp, rfl⟩ := List.mem_map.mp ha
    obtain ⟨q, hq, e⟩ := List.mem_map.mp hb
    obtain ⟨_, _, o, eo, _⟩ := S.nw q hq
    rw [e, (ho p hp).2.1] at eo; cases eo

/-- a call of a def of the text's with one cell, whose parameters are plain -/
theorem cd_defC {f : Addr} {name qual z : Str} {params : Arguments} {body : List Stmt} {scope : Scope} {dV kV doc pm cdv ct oc : Value} {an od : Option Addr} {osl : Array (Option Value)} {vs : List Value} {binds : LS} {Q : Value → NS → Prop}
    (ho : C.K.lookup f = some ⟨oc, od, .func (fnOf name qual params body scope dV kV doc pm an cdv ct), osl⟩) (hcd : codeIn C.K cdv qual = true)
    (hbind : ∀ vs', vs'.map er = vs → ∃ b', bindArgs (fnOf name qual params body scope dV kV doc pm an cdv ct) ⟨vs', []⟩ = pure b' ∧ b'.map (fun p => (p.1, er p.2)) = binds)
    (hloc : ∀ y ∈ binds, scope.names.lookup y.1 = some .local) (hcell : ∀ k, cellsFrom k scope.names [] = [(z, k)])
    (h : ∀ L' c, Ex C n (envX qual scope L' f cdv [(z, c)]) binds.reverse ((c, .cell none) :: ns) body fun fl l m => ∃ m', m'.Sublist m ∧ Q (retOf fl) m')
    (hco : scope.isCoroutine = false := by rfl) (hgen : scope.isGenerator = false := by rfl) (hk : scope.kind = .function := by rfl) : Cd C (n + 1) L ls ns (.ref f) vs Q := fun vs' A h₀ s hvs R G S => by
  obtain ⟨b', hb, hb'⟩ := hbind vs' hvs
  have X := (S.gd G).X
  have hloc' : ∀ y ∈ b', scope.names.lookup y.1 = some .local := fun y hy => hloc (y.1, er y.2) (hb' ▸ List.mem_map.mpr ⟨y, hy, rfl⟩)
  refine codeAny_call_cells (fd := fnOf name qual params body scope dV kV doc pm an cdv ct) (body := body) (binds := b') R.room (X _ _ ho) rfl (S.gd G).nolimit (codeRec_of X hcd) rfl hb rfl
    (fun y hy => .inl (hloc' y hy)) (fun s₁ IC => ?_) hco hgen hk
  have e1 : callEnvC (fnOf name qual params body scope dV kV doc pm an cdv ct) s.heap.objs.size f = envX qual scope s.heap.objs.size f cdv [(z, s.heap.objs.size + 1)] := by
    unfold callEnvC newEnv
    rw [hcell]
  rw [e1] at IC ⊢
  obtain ⟨h₁, tk, hs₁, hk₁⟩ := IC.done
  have hl : ∀ y ∈ b', (envX qual scope s.heap.objs.size f cdv [(z, s.heap.objs.size + 1)]).kindOf y.1 = some .local := fun y hy => hloc' y hy
  have hc := IC.cell z (s.heap.objs.size + 1) (by simp)
  rw [bindC_eq hl] at hc
  have hns := IC.toInCall.ns
  subst hs₁
  obtain ⟨up, hL⟩ := S.down
  obtain ⟨oc', hoc, hdc⟩ := hc
  have S₁ := S.enter (L' := s.heap.objs.size) (binds := binds.reverse) (own := [(s.heap.objs.size + 1, .cell none)]) (none_of_size (Nat.le_refl _)) hns (fun x v e => by
      rw [← hb', ← List.map_reverse] at e
      obtain ⟨u, hu, eu⟩ := lookup_er e
      exact ⟨u, by rw [bindL_eq hl, hu]; rfl, eu⟩) hk₁ (fun p hp => by
      rw [List.mem_singleton.mp hp]
      exact ⟨Nat.succ_ne_self _, none_of_size (Nat.le_succ _), oc', hoc, none, hdc, rfl, free_cell hdc⟩) (by simp)
  refine wpAny_mono (h s.heap.objs.size (s.heap.objs.size + 1) _ _ _ R.deeper (G.keeps up) S₁) (fun fl s' q => ?_) fun _ _ e => e.elim
  obtain ⟨l, m, S', k, m', hm, q⟩ := q
  have q' : Q (er (retOf fl)) m' := by cases fl <;> exact q
  have : Post C h₀ L s (fun v l m => l = ls ∧ Q (er v) m) (retOf fl) s' := ⟨ls, m', S.leave up hL S' hm, (Later.of _ _).trans k, rfl, q'⟩
  cases fl <;> exact ⟨_, rfl, this⟩

/-! lambdas -/
theorem ev_lam {params : Arguments} {body : Expr} {scope : Scope} {clos : List (Str × Addr)} {ps : Array Value} {P cc : Addr} {Q : Value → NS → Prop} (he : FnEnv env) (hdef : defaultsOf params env = ([], [])) (hcl : closureFor scope env = Pure.pure clos) (hcode : env.code = .ref cc) (hK : codeHdIn C.K cc P = true)
    (w : Sel P (.raw (tabObj ps)) ns ns1) (ht : TriplesOk ps.toList) (hnf : codeAmong pos ps.toList = none) (hgP : mainGlobals ≠ P)
    (h : ∀ f c' oc fs t ctv pm ps', oc.data = .fields fs → fs[1]? = some (.str (env.qual ++ "<lambda>") t) → Q (.ref f) ((f, .raw (kla_obj "<lambda>" (env.qual ++ "<lambda>") params body scope clos pm c' ctv)) :: (P, .raw (tabObj ps')) :: (c', .raw oc) :: ns1)) : Ev C n env ls ns (.Lambda params body scope pos) Q := fun A h₀ s R G S => by
  have S := S.perm w.perm
  obtain ⟨mg, bm, ob, b0, b1, b2, b3, b4, b5, b6⟩ := (S.gd G).B
  obtain ⟨oP, eP, e2⟩ := S.get (.head _)
  rw [show oP = tabObj ps from e2] at eP
  have hP := S.nw _ (.head _)
  have hbP : bm ≠ P := fun q => by
    rw [q, eP] at b3; cases b3; cases b4
  have hbG : bm ≠ mainGlobals := fun q => by
    obtain ⟨o, es, ep, e, hd, _⟩ := b0
    rw [q, e] at b3; cases b3; rw [hd] at b6; cases b6
  refine kla_eval hdef (kla_makeFunction (mg := mg) hcl he.g b0 hcode (codeHd_of_K (S.gd G).X hK) eP ht hnf hgP ⟨bm, ob, b1, b2, hbG, hbP, b3, b4, b5, b6⟩ fun c' ctv h' tk hx hge hlt hrec htb => ?_)
  obtain ⟨c₂, oc, fs, t, q1, hoc, hd, hv⟩ := hrec
  cases q1
  have nd := S.nd
  rw [List.map_cons, List.nodup_cons] at nd
  have S1 : St C h₀ env.locals ls ns1 h' := (S.sub (List.sublist_cons_self _ _)).wr (wr := [P]) (fun b o hb e => hx b o (fun q => hb (by simp [q])) e) (fun q => hP.1 (List.mem_singleton.mp q).symm) (fun p hp q => nd.1 (List.mem_map.mpr ⟨p, hp, List.mem_singleton.mp q⟩)) fun b hb => (List.mem_singleton.mp hb) ▸ hP.2.1
  have S2 := S1.push' (a := c') (o := .raw oc) (S.sub (List.sublist_cons_self _ _)) hoc (none_of_size hge) (Nat.ne_of_gt (Nat.lt_of_lt_of_le S.ltL hge)) rfl
  obtain ⟨ps', htb⟩ : ∃ ps', h'.get? P = some (tabObj ps') := ⟨_, htb⟩
  have S3 : St C h₀ env.locals ls ((P, .raw (tabObj ps')) :: (c', .raw oc) :: ns1) h' := by
    refine ⟨S2.fr, S2.keep, S2.nL, fun p hp => ?_, ?_⟩
    · rcases List.mem_cons.mp hp with rfl | hp
      · exact ⟨hP.1, hP.2.1, _, htb, rfl⟩
      · exact S2.nw p hp
    · rw [List.map_cons, List.nodup_cons]
      refine ⟨fun hm => ?_, S2.nd⟩
      rcases List.mem_cons.mp hm with q | q
      · exact Nat.ne_of_lt (Nat.lt_of_lt_of_le (Heap.lt_size eP) hge) q
      · exact nd.1 q
  exact .v (S3.alloc (o := .raw (kla_obj "<lambda>" (env.qual ++ "<lambda>") params body scope clos ((mg "__name__").getD .none) c' ctv)) rfl) (.of _ _) (h _ _ _ _ _ _ _ _ hd hv)

/-- a made lambda's call -/
theorem cd_lam {f c' : Addr} {name qual : Str} {params : Arguments} {body : Expr} {scope : Scope} {clos : List (Str × Addr)} {pm ctv : Value} {oc : Obj} {fs : Array Value} {t : Tok} {binds : LS} {Q : Value → NS → Prop}
    (hm : (f, PO.raw (kla_obj name qual params body scope clos pm c' ctv)) ∈ ns) (hoc : (c', PO.raw oc) ∈ ns) (hd : oc.data = .fields fs) (hv : fs[1]? = some (.str qual t))
    (hbind : ∀ vs', vs'.map er = vs → ∃ b', bindArgs (kla_fn name qual params body scope clos pm (.ref c') ctv) ⟨vs', []⟩ = Pure.pure b' ∧ b'.map (fun p => (p.1, er p.2)) = binds)
    (hloc : ∀ y ∈ binds, scope.names.lookup y.1 = some .local) (hcell : ∀ x ∈ scope.names, x.2 ≠ .cell)
    (h : ∀ L', Ev C n (envX qual scope L' f (.ref c') clos) binds.reverse ns body fun v m => ∃ m', m'.Sublist m ∧ Q v m')
    (hco : scope.isCoroutine = false := by rfl) (hgen : scope.isGenerator = false := by rfl) (hk : scope.kind = .function := by rfl) : Cd C (n + 1) L ls ns (.ref f) vs Q := fun vs' A h₀ s hvs R G S => by
  obtain ⟨b', hb, hb'⟩ := hbind vs' hvs
  obtain ⟨of, ef, e2⟩ := S.get hm
  rw [show of = _ from e2] at ef
  obtain ⟨oc', ec, e3⟩ := S.get hoc
  rw [show oc' = oc from e3] at ec
  refine kla_callFunE R.room ef rfl hco hgen rfl ⟨c', oc, fs, t, rfl, ec, hd, hv⟩ ?_
  rw [hb]
  refine wpAny_pure (wpAny_newFunctionEnv hcell (fun y hy => hloc (y.1, er y.2) (hb' ▸ List.mem_map.mpr ⟨y, hy, rfl⟩)) (fun h₁ hns hsb => ⟨((S.gd G).nolimit).fresh _ hsb, ?_⟩) hk)
  show codeAny _ _ (.expr body (envX qual scope s.heap.objs.size f (.ref c') clos)) _ _
  have hk₁ : ∀ b o, s.heap.get? b = some o → h₁.get? b = some o := fun b o e => hsb.extBut b o (Nat.ne_of_lt (Heap.lt_size e)) (Heap.get?_push_of_some _ e)
  obtain ⟨up, hL⟩ := S.down
  have S₁ := S.enter (L' := s.heap.objs.size) (binds := binds.reverse) (own := []) (none_of_size (Nat.le_refl _)) hns (fun x v e => by
      rw [← hb', ← List.map_reverse] at e
      exact lookup_er e) hk₁ (fun p hp => by cases hp) (by simp)
  refine kla_codeExpr (wpAny_mono (h s.heap.objs.size _ _ _ R.deeper (G.keeps up) S₁) (fun v s' q => ?_) fun _ _ e => e.elim)
  obtain ⟨l, m, S', k, rfl, m', hm', q⟩ := q
  exact ⟨v, rfl, ls, m', S.leave up hL S' hm', (Later.of _ _).trans k, rfl, q⟩
/-- what lies in a made object's own dict, handed out for a call -/
theorem gm_own {Cc dx : Addr} {fs : List (Str × Value)} {attr : Option Value} {name : Str} {Q : Value → List Value → NS → Prop} (hi : (a, PO.inst Cc dx) ∈ ns) (hd : (dx, PO.dict fs) ∈ ns) (hg : plainGet C.K Cc name = true) (hh : hasDictIn C.K Cc = true) (ha : findIn C.K (.ref Cc) name = some attr) (hn : noGet C.K attr = true)
    (ht : attr.all (fun a => (typeIn C.K a).any fun t => t != .type "function" && t != .type "method_descriptor" && t != .type "wrapper_descriptor") = true)
    (hl : fs.lookup name = some v) (hv : handedIn v = true) (h : Q v [] ns) : Gm C n L ls ns (.ref a) name Q := fun o' pl ho A h₀ s R G S => by
  obtain rfl := er_ref ho
  obtain ⟨es, k, e, hk, I⟩ := getInst S hi hd
  obtain ⟨u, hu, eu⟩ := (keys_get hk).1 v hl
  exact method_usual (S.gd G).X I (plainGet_of hg).1 (plainGet_of hg).2 ha ht (get_value (S.gd G).X I (plainGet_of hg).1 (findObj_own hh ha hn hu) (handed_er eu hv) ⟨ls, ns, S, .of _ _, rfl, eu ▸ h⟩)
/-- a call of a function that lies in the ledger -/
theorem cw_fn {f : Addr} {oc : Value} {od : Option Addr} {fd : FuncData} {sl : Array (Option Value)} {first : List Value} {es : List Expr} {Q : Value → NS → Prop} (hp : (starEach es env).any (·.1) = false)
    (h : Ar C n env ls ns pos es fun vs m => (f, PO.raw ⟨oc, od, .func fd, sl⟩) ∈ m ∧ Cl C n env.locals ls m (.ref f) (first ++ vs) Q) : Cw C n env ls ns pos (.ref f) first es Q :=
  fun f' fs' hf hfs A h₀ s R G S => by
    obtain rfl := er_ref hf
    refine callWith_of (P := FnAt f) (by rw [starEach_false hp pos]; rfl) (fun h X => keeps_F h X) (evalArgs_all (starEach_false hp pos) (h.run R G S fun vs s1 m S1 k1 q => ⟨?_, (q.2 (fs' ++ vs) (by rw [List.map_append, hfs])).next R G S1 k1⟩))
    obtain ⟨o, e, e2⟩ := S1.get q.1
    rw [show o = _ from e2] at e
    exact ⟨_, _, _, _, e⟩
/-- a bound method's call -/
theorem cd_meth {q f : Addr} {self : Value} {Q : Value → NS → Prop} (hq : (q, PO.raw (methodObj (.ref f) self)) ∈ ns) (hs : er self = self) (h : Cd C n L ls ns (.ref f) (self :: vs) Q) : Cd C n L ls ns (.ref q) vs Q := fun vs' A h₀ s hvs R G S => by
  obtain ⟨o, e, e2⟩ := S.get hq
  rw [show o = _ from e2] at e
  exact method_call e (h (self :: vs') A h₀ s (by rw [List.map_cons, hs, hvs]) R G S)
end
theorem slot_ci_next : Slot "callable_iterator" "__next__" "callable_iterator.__next__" :=
  .of (owner := "callable_iterator") (n := "__next__") (by rw [typeLookup_type, builtinLookup_eq_fast]; kernel_rfl) (by decide +kernel) (by decide +kernel) (by decide +kernel)
    (by first | exact .inl (by decide +kernel) | exact .inr (by decide +kernel)) (by rw [isSubtype_type]; kernel_rfl)
theorem slot_ci_self : Slot "callable_iterator" "__iter__" "callable_iterator.__iter__" :=
  .of (owner := "callable_iterator") (n := "__iter__") (by rw [typeLookup_type, builtinLookup_eq_fast]; kernel_rfl) (by decide +kernel) (by decide +kernel) (by decide +kernel)
    (by first | exact .inl (by decide +kernel) | exact .inr (by decide +kernel)) (by rw [isSubtype_type]; kernel_rfl)
theorem entry_ci_next : entryFor table "callable_iterator.__next__" = some Builtin.«callable_iterator.__next__» := entryFor_of_tree (by kernel_rfl)
theorem entry_ci_self : entryFor table "callable_iterator.__iter__" = some Builtin.«dict_keyiterator.__iter__» := entryFor_alias (id' := "dict_keyiterator.__iter__") (by kernel_rfl) rfl (by decide +kernel) (by kernel_rfl)
theorem args_ci_next (a : Value) : argsOk "callable_iterator.__next__" ⟨[a], []⟩ := by unfold argsOk; kernel_rfl
theorem args_ci_self (a : Value) : argsOk "callable_iterator.__iter__" ⟨[a], []⟩ := by unfold argsOk; kernel_rfl
theorem args_iter2 (a b : Value) : argsOk "iter" ⟨[a, b], []⟩ := by unfold argsOk; kernel_rfl
theorem lookup_meth_call : ∃ v, typeLookup (.type "method") "__call__" = Pure.pure (some v) := ⟨.builtin "method.__call__", by rw [typeLookup_type, builtinLookup_eq_fast]; kernel_rfl⟩
abbrev ciObj (f : Value) (t : Tok) : Obj := { cls := .type "callable_iterator", data := .fields #[f, .str ⟨#[]⟩ t, .bool false] }

section
variable {M : Model} {A : Around} {E : Value → Shared → Prop} {s : Shared}
theorem borrows_meth {q f : Addr} {self : Value} {of : Obj} {fd : FuncData} {Q : Bool → Shared → Prop} (e : s.heap.get? q = some (methodObj (.ref f) self)) (ef : s.heap.get? f = some of) (hf : of.data = .func fd) (h : Q true s) : wpAny M A (borrowsExactly (.ref q)) Q E s := by
  unfold borrowsExactly
  refine wpAny_bind (wpAny_load e ?_)
  show wpAny M A (do match (← load f).data with | .func _ => Pure.pure true | _ => Pure.pure false) Q E s
  refine wpAny_bind (wpAny_load ef ?_)
  rw [hf]
  exact wpAny_pure h
theorem wpAny_callBorrowed {f : Value} {pos : List Value} {Q : Value → Shared → Prop} (hc : codeAny M A (.call f ⟨pos, []⟩) (fun r s' => match r with | .ok (.ret v) => Q v s' | .ok _ => False | .error e => E e s') s) : wpAny M A (callBorrowed f pos) Q E s := fun Γ p hΓ => by
  unfold callBorrowed
  rw [Sem.wp_call]
  refine wpCode_mono (fun r s' q => ?_) (hc _ p rfl (hΓ.enter (.call f ⟨pos, []⟩) none p (by intro x; cases x)))
  cases r with
  | error e => exact q
  | ok f => cases f <;> exact q
end

section
variable {C : Cx} {n : Nat} {L : Addr} {ls : LS} {ns ns' ns1 ns2 : NS} {env : Env} {pos p px py : Pos} {value slice : Expr} {a b c q f it : Addr} {vs ws : List Value} {x y : Str} {v self : Value}
theorem cl_iter2 {Q : Value → NS → Prop} (hq : (q, PO.raw (methodObj (.ref f) self)) ∈ ns) (h : ∀ i t, Q (.ref i) ((i, .raw (ciObj (.ref q) t)) :: ns)) : Cl C n L ls ns (.builtin "iter") [.ref q, Mine.S ⟨#[]⟩] Q := fun vs' hvs A h₀ s R G Z => by
  obtain ⟨a', b', rfl, e1, e2⟩ := map_er2 hvs
  obtain rfl := er_ref e1
  obtain ⟨t, rfl⟩ := er_str e2
  obtain ⟨o, e, e3⟩ := Z.get hq
  rw [show o = _ from e3] at e
  obtain ⟨w, hw⟩ := lookup_meth_call
  refine call_function_entry (by decide +kernel) (by decide +kernel) kdk_entry_iter (args_iter2 _ _) ?_
  unfold Builtin.«iter»
  refine wpAny_bind (m := someArgs "iter" 1 2 _) (wpAny_of_eq (a := [Value.ref q, .str ⟨#[]⟩ t]) (by first | rfl | kernel_rfl!) ?_)
  dsimp only
  refine wpAny_bind (wpAny_specialOf (T := "method") ⟨_, e, rfl⟩ hw ?_)
  simp only [Option.isNone_some, Bool.false_eq_true, if_false]
  refine wpAny_bind (wpAny_rule (wpAny_bind (wpAny_newObj_type (wpAny_pure ⟨_, rfl, .v (Z.alloc (o := .raw (ciObj (.ref q) t)) rfl) (.of _ _) (h _ _)⟩))))
theorem pi_ci {g : Value} {t : Tok} {Q : Value → NS → Prop} (hm : (it, PO.raw (ciObj g t)) ∈ ns) (h : Q (.ref it) ns) : Op1 C n L ls ns pyIter (.ref it) Q := fun a' ha A h₀ s R G Z => by
  obtain rfl := er_ref ha
  obtain ⟨o, e, e3⟩ := Z.get hm
  rw [show o = _ from e3] at e
  have hT : s.TypeIs (.ref it) "callable_iterator" := ⟨_, e, rfl⟩
  refine wpAny_pyIter_slot hT slot_ci_self (wpAny_call_entry slot_ci_self hT entry_ci_self ?_ (args_ci_self _))
  show wpAny _ _ (ret (.ref it)) _ _ s
  exact wpAny_pure ⟨_, rfl, "callable_iterator", _, hT, slot_ci_next.lookup, .v Z (.refl _) h⟩
theorem nx_ci {t : Tok} {oc : Value} {od : Option Addr} {fd : FuncData} {osl : Array (Option Value)} {Qn : NS → Prop} {Qs : Value → NS → Prop} (hm : (it, PO.raw (ciObj (.ref q) t)) ∈ ns) (hq : (q, PO.raw (methodObj (.ref f) self)) ∈ ns) (hf : C.K.lookup f = some ⟨oc, od, .func fd, osl⟩) (hs : er self = self)
    (h : Cd C n L ls ns (.ref f) [self] fun v m => ∃ x m1, v = Mine.S x ∧ Sel it (.raw (ciObj (.ref q) t)) m m1 ∧ (q, PO.raw (methodObj (.ref f) self)) ∈ m ∧ if x = ⟨#[]⟩ then Qn m1 else Qs v m) : Nx C (n + 1) L ls ns (.ref it) Qn Qs := fun A h₀ s R G Z => by
  obtain ⟨o, e, e3⟩ := Z.get hm
  rw [show o = _ from e3] at e
  obtain ⟨o', eq, e4⟩ := Z.get hq
  rw [show o' = _ from e4] at eq
  have hT : s.TypeIs (.ref it) "callable_iterator" := ⟨_, e, rfl⟩
  unfold pyNext
  refine wpAny_bind (wpAny_attempt (wpAny_callSpecial?_slot (name := PySem.Str.ofString "__next__") hT slot_ci_next
    (wpAny_call_entry slot_ci_next hT entry_ci_next ?_ (args_ci_next _))))
  show wpAny _ _ (field (.ref it) 2 >>= _) _ _ s
  refine wpAny_bind (wpAny_field e rfl (x := .bool false) rfl ?_)
  show wpAny _ _ (if (Value.bool false == Value.bool true) = true then _ else _) _ _ s
  rw [if_neg (show ¬ ((Value.bool false == Value.bool true) = true) from Bool.false_ne_true)]
  show wpAny _ _ (field (.ref it) 0 >>= _) _ _ s
  refine wpAny_bind (wpAny_field e rfl (x := .ref q) rfl ?_)
  refine wpAny_bind (wpAny_attempt ?_)
  unfold callOutOfASlot
  refine wpAny_bind (borrows_meth eq ((Z.gd G).X _ _ hf) rfl ?_)
  rw [if_pos rfl]
  refine wpAny_callBorrowed (codeAny_mono (cd_meth hq hs h [] A.in1 h₀ s rfl R.in1 G Z) fun r s1 z => ?_)
  obtain ⟨v, rfl, l, m, S1, k1, rfl, x, m1, hv, sel, hq1, z⟩ := z
  obtain ⟨t', rfl⟩ := er_str hv
  obtain ⟨o2, e2, e5⟩ := S1.get sel.mem
  rw [show o2 = _ from e5] at e2
  obtain ⟨o3, e6, e7⟩ := S1.get hq1
  rw [show o3 = _ from e7] at e6
  show wpAny _ _ (field (.ref it) 2 >>= _) _ _ s1
  refine wpAny_bind (wpAny_field e2 rfl (x := .bool false) rfl ?_)
  show wpAny _ _ (if (Value.bool false == Value.bool true) = true then _ else _) _ _ s1
  rw [if_neg (show ¬ ((Value.bool false == Value.bool true) = true) from Bool.false_ne_true)]
  show wpAny _ _ (field (.ref it) 1 >>= _) _ _ s1
  refine wpAny_bind (wpAny_field e2 rfl (x := .str ⟨#[]⟩ t) rfl ?_)
  refine wpAny_bind (wpAny_holding (wpAny_eqBool_str ?_))
  by_cases hx : x = ⟨#[]⟩
  · subst hx
    rw [if_pos rfl] at z
    rw [if_neg (by simp)]
    have nd := S1.nd
    have S2 := S1.perm sel.perm
    have nd := S2.nd
    rw [List.map_cons, List.nodup_cons] at nd
    have hi := S2.nw _ (.head _)
    refine wpAny_bind (wpAny_rule (wpAny_bind ?_))
    show wpAny _ _ (field (.ref it) 0 >>= _) _ _ _
    refine wpAny_bind (wpAny_field e2 rfl (x := .ref q) rfl (wpAny_bind ?_))
    unfold slotLetsGo
    refine wpAny_bind (borrows_meth e6 ((S1.gd G).X _ _ hf) rfl ?_)
    refine wpAny_pure ?_
    refine wpAny_bind (wpAny_setField_rec e2 (by simp) fun h2 g2 b2 => ?_)
    refine wpAny_bind (wpAny_setField_rec g2 (by simp) fun h3 g3 b3 => ?_)
    refine wpAny_setField_rec g3 (by simp) fun h4 g4 b4 => ?_
    show wpAny _ _ (newExc (.type "StopIteration") [] >>= _) _ _ _
    refine wpAny_bind ?_
    simp only [newExc, newTuple]
    refine wpAny_bind (wpAny_newObj_type ?_ (by size_fits))
    refine wpAny_bind (m := firstArgMember _ _) (wpAny_of_eq (a := Value.none) (by first | rfl | (simp only [firstArgMember]; rfl)) ?_)
    refine wpAny_newObj_type ?_ (by size_fits)
    simp only [raiseNew]
    refine wpAny_bind (wpAny_handled ?_)
    rw [show A.in1.handled = none from R.hh]
    refine wpAny_bind (wpAny_pure (wpAny_throw ?_))
    refine wpAny_bind (wpAny_isInstance (T := "StopIteration") (b := true) ⟨_, Heap.get?_push_size _ rfl, rfl⟩ isSubtype_stop ?_)
    refine wpAny_pure ⟨l, m1, ?_, k1.trans (.of _ _), rfl, z⟩
    exact (S2.sub (List.sublist_cons_self _ _)).wr (wr := [it]) (fun b o hb e => Heap.get?_push_of_some _ (Heap.get?_push_of_some _ (by
      have hb' : b ≠ it := fun q => hb (by simp [q])
      exact (b4.2 b hb').trans ((b3.2 b hb').trans ((b2.2 b hb').trans e))))) (fun q => hi.1 (List.mem_singleton.mp q).symm) (fun p hp q => nd.1 (List.mem_map.mpr ⟨p, hp, List.mem_singleton.mp q⟩)) fun b hb => (List.mem_singleton.mp hb) ▸ hi.2.1
  · rw [if_neg hx] at z
    have : decide ((⟨#[]⟩ : PySem.Str) = x) = false := by simpa using fun q => hx q.symm
    rw [this]
    rw [if_pos (show (!false) = true from rfl)]
    exact wpAny_pure ⟨_, rfl, wpAny_pure ⟨l, m, S1, k1, rfl, z⟩⟩
end
/-- a text out of its signs -/
abbrev sx (l : List Nat) : Str := ⟨l.toArray⟩
theorem sx_len (l : List Nat) : (sx l).length = l.length := by simp [Str.length]
theorem sx_app (a b : List Nat) : sx a ++ sx b = sx (a ++ b) := Str.ext' (by simp [Str.cps_append])
theorem sx_beq (a b : List Nat) : (sx a == sx b) = (a == b) := by
  rw [Bool.eq_iff_iff]; simp
theorem in_one (l : List Nat) (c : Nat) : (!(Builtin.Str.occurrences (sx l) (sx [c]) 0 (sx l).length 1).isEmpty) = decide (c ∈ l) := by
  have := StrLaws.found_one (sx l) c
  simpa using this
theorem tx_plain {l : List Nat} {a b : Nat} (hab : a ≤ b) (hb : b ≤ l.length) : Txt.slice (sx l) (some (a : Int)) (some (b : Int)) = sx ((l.drop a).take (b - a)) := by
  unfold Txt.slice
  have h := StrLaws.sliced_plain (sx l) hab (by rw [sx_len]; exact hb)
  split
  · rename_i hc
    have : (Builtin.Str.strSliceIndices (some (a : Int)) (some (b : Int)) 1 (sx l).length).length = (sx l).length := by simpa using hc
    rw [StrLaws.strSliceIndices_plain hab (by rw [sx_len]; exact hb), sx_len] at this
    simp at this
    have ha : a = 0 := by omega
    have hb' : b = l.length := by omega
    subst ha hb'
    simp
  · rw [h]
theorem idx_lo (b : Option Int) (n : Nat) : Builtin.Str.strSliceIndices none b 1 n = Builtin.Str.strSliceIndices (some ((0 : Nat) : Int)) b 1 n := by
  have : max (0 : Int) (min 0 (n : Int)) = 0 := by omega
  simp [Builtin.Str.strSliceIndices, this]
theorem idx_hi (a : Option Int) (n : Nat) : Builtin.Str.strSliceIndices a none 1 n = Builtin.Str.strSliceIndices a (some (n : Int)) 1 n := by
  have h1 : ¬ ((n : Int) < 0) := by omega
  have : max (0 : Int) (min (n : Int) (n : Int)) = n := by omega
  simp [Builtin.Str.strSliceIndices, this, h1]
theorem tx_take {l : List Nat} {n : Nat} (h : n ≤ l.length) : Txt.slice (sx l) none (some (n : Int)) = sx (l.take n) := by
  have := tx_plain (l := l) (a := 0) (b := n) (by omega) h
  unfold Txt.slice at this ⊢
  rw [idx_lo]
  simpa using this
theorem tx_drop {l : List Nat} {n : Nat} (h : n ≤ l.length) : Txt.slice (sx l) (some (n : Int)) none = sx (l.drop n) := by
  have := tx_plain (l := l) (a := n) (b := l.length) h (Nat.le_refl _)
  unfold Txt.slice at this ⊢
  rw [idx_hi, show (sx l).length = l.length from sx_len l]
  rw [show (sx l).length = l.length from sx_len l] at this
  rw [this]
  congr 2
  exact List.take_of_length_le (by simp)
theorem glued_nil : ∀ (ls : List (List Nat)), Txt.join ⟨#[]⟩ (ls.map sx) = sx ls.flatten := by
  intro ls
  unfold Txt.join
  rw [StrLaws.glued_eq_join]
  induction ls with
  | nil => rfl
  | cons a r ih =>
    cases r with
    | nil => simp [Str.join]
    | cons b r =>
      show sx a ++ ⟨#[]⟩ ++ Str.join ⟨#[]⟩ ((b :: r).map sx) = _
      rw [ih, show (⟨#[]⟩ : Str) = sx [] from rfl, sx_app, sx_app]
      simp
theorem tx_rev (vs : List Value) : pickL vs none none (some (-1)) = vs.reverse := by
  unfold pickL
  rw [krv_pick]
theorem tx_butlast (vs : List Value) : pickL vs none (some (-1)) none = vs.dropLast := by
  unfold pickL
  rw [slicePick_plain]
  have h := clipAt_neg vs.toArray.size 1 (by omega)
  simp only [Option.elim, show (-1 : Int) = -((1 : Nat) : Int) from rfl, h]
  simp [List.dropLast_eq_take]
theorem tx_from (vs : List Value) (n : Nat) : pickL vs (some (n : Int)) none none = vs.drop n := by
  unfold pickL
  rw [slicePick_from']
theorem tx_upto (vs : List Value) (n : Nat) : pickL vs none (some (n : Int)) none = vs.take n := by
  unfold pickL
  rw [slicePick_plain]
  simp [clipAt_nat, List.take_eq_take_iff]
/-- a part of a ledger, in any order -/
inductive Pk : NS → NS → Prop
  | refl {ns} : Pk ns ns
  | drop {p ns ns'} : Pk ns ns' → Pk (p :: ns) ns'
  | pick {a o ns ns1 r} : Sel a o ns ns1 → Pk ns1 r → Pk ns ((a, o) :: r)
theorem Sel.sp {a : Addr} {o : PO} {ns ns1 : NS} (s : Sel a o ns ns1) : ∀ {q : NS}, q.Sublist ns1 → ∃ t : NS, t.Sublist ns ∧ ((a, o) :: q).Perm t := by
  induction s with
  | hd => intro q x; exact ⟨_, x.cons_cons _, .refl _⟩
  | @tl p r r' _ ih2 =>
    intro q x
    cases x with
    | cons _ x => obtain ⟨t, u, v⟩ := ih2 x; exact ⟨t, u.cons _, v⟩
    | @cons_cons l₁ _ _ x => obtain ⟨t, u, v⟩ := ih2 x; exact ⟨p :: t, u.cons_cons _, (List.Perm.swap _ _ _).trans (v.cons _)⟩
theorem Pk.spl {ns ns' : NS} (h : Pk ns ns') : ∃ r, r.Sublist ns ∧ ns'.Perm r := by
  induction h with
  | refl => exact ⟨_, .refl _, .refl _⟩
  | drop _ ih => obtain ⟨r, a, b⟩ := ih; exact ⟨r, a.cons _, b⟩
  | @pick a o ns ns1 r s _ ih =>
    obtain ⟨q, x, y⟩ := ih
    obtain ⟨t, u, v⟩ := s.sp x
    exact ⟨t, u, (y.cons _).trans v⟩
theorem Pk.app {ns ns' : NS} (h : Pk ns ns') : ∀ fz : NS, Pk (fz ++ ns) (fz ++ ns')
  | [] => h
  | p :: r => .pick .hd (h.app r)
def Ls (ls : LS) : LS → Prop
  | [] => True
  | p :: r => ls.lookup p.1 = some p.2 ∧ Ls ls r
theorem Ls.all {ls : LS} : ∀ {l : LS}, Ls ls l → ∀ p ∈ l, ls.lookup p.1 = some p.2
  | q :: r, h, p, hp => by
    rcases List.mem_cons.mp hp with rfl | hp
    · exact h.1
    · exact Ls.all h.2 p hp
section
variable {C : Cx} {n : Nat} {L : Addr} {ls ls' : LS} {fz ns ns' : NS} {env : Env} {pos : Pos}
theorem St.pk {h₀ h : Heap} (S : St C h₀ L ls ns h) (k : Pk ns ns') : St C h₀ L ls ns' h := by
  obtain ⟨r, a, b⟩ := k.spl
  exact (S.sub a).perm b
theorem St.turn {h₀ h : Heap} (S : St C h₀ L ls ns h) (l : Ls ls ls') (k : Pk ns ns') : St C h₀ L ls' ns' h := (S.pk k).loc l.all
theorem ex_st {b : List Stmt} {Q : Flow → LS → NS → Prop} (l : Ls ls ls') (k : Pk ns ns') (h : Ex C n env ls' ns' b Q) : Ex C n env ls ns b Q := fun A h₀ s R G S => h A h₀ s R G (S.turn l k)
theorem wl_st {t : Expr} {b : List Stmt} {Q : Flow → LS → NS → Prop} (l : Ls ls ls') (k : Pk ns ns') (h : Wl C n env ls' ns' t b Q) : Wl C n env ls ns t b Q := fun A h₀ s s₀ R G S => h A h₀ s s₀ R G (S.turn l k)
theorem fg_st {t : Expr} {it : Value} {b : List Stmt} {Q : Flow → LS → NS → Prop} (l : Ls ls ls') (k : Pk ns ns') (h : Fg C n env ls' ns' t it b Q) : Fg C n env ls ns t it b Q := fun A h₀ s s₀ R G S => h A h₀ s s₀ R G (S.turn l k)
theorem fl_st {t : Expr} {b : List Stmt} {rest : List LS} {Q : Flow → LS → NS → Prop} (l : Ls ls ls') (k : Pk ns ns') (h : Fl C n env ls' fz ns' t b rest Q) : Fl C n env ls fz ns t b rest Q :=
  fun it fp wr vs W i A h₀ s s₀ w hd hi R G S hW hL hn hf h0 kk => h it fp wr vs W i A h₀ s s₀ w hd hi R G (S.turn l (k.app fz)) hW hL (fun p hp => by
    obtain ⟨r, a, b⟩ := k.spl
    exact hn p (a.subset (b.subset hp))) hf h0 kk
theorem Cd.pk {f : Value} {vs : List Value} {Q : Value → NS → Prop} (k : Pk ns ns') (h : Cd C n L ls ns' f vs Q) : Cd C n L ls ns f vs Q := fun vs' A h₀ s e R G S => h vs' A h₀ s e R G (S.pk k)
theorem Cd.out {f : Value} {vs : List Value} {Q : Value → NS → Prop} (h : Cd C n L ls ns f vs fun v m => ∃ m', Pk m m' ∧ Q v m') : Cd C n L ls ns f vs Q := fun vs' A h₀ s e R G S =>
  codeAny_mono (h vs' A h₀ s e R G S) fun r s' ⟨v, a, l, m, S', k, d, m', pk, q⟩ => ⟨v, a, l, m', S'.pk pk, k, d, q⟩
/-- induction for a for loop over a list's items -/
theorem fl_list {α β : Type} {target : Expr} {body : List Stmt} {Q : Flow → LS → NS → Prop} (f : β → LS) (Inv : α → List β → Prop) (lo : α → LS) (no : α → NS) (nil : ∀ a, Inv a [] → Q .next (lo a) (fz ++ no a))
    (cons : ∀ a c r, Inv a (c :: r) → (∀ a', Inv a' r → Fl C n env (lo a') fz (no a') target body (r.map f) Q) → Fl C n env (lo a) fz (no a) target body (f c :: r.map f) Q) : ∀ l a, Inv a l → Fl C n env (lo a) fz (no a) target body (l.map f) Q
  | [], a, h => fl_nil (nil a h)
  | c :: r, a, h => cons a c r h fun a' h' => fl_list f Inv lo no nil cons r a' h'
/-- the same, with breaks -/
theorem fl_listB {α β : Type} {target : Expr} {body : List Stmt} {Q : Flow → LS → NS → Prop} (f : β → LS) (Inv : α → List β → Prop) (Fin : α → Prop) (lo : α → LS) (no : α → NS) (fin : ∀ a, Fin a → Q .next (lo a) (fz ++ no a)) (nil : ∀ a, Inv a [] → Fin a)
    (cons : ∀ a c r, Inv a (c :: r) → (∀ a, Fin a → Q .next (lo a) (fz ++ no a)) → (∀ a', Inv a' r → Fl C n env (lo a') fz (no a') target body (r.map f) Q) → Fl C n env (lo a) fz (no a) target body (f c :: r.map f) Q) : ∀ l a, Inv a l → Fl C n env (lo a) fz (no a) target body (l.map f) Q
  | [], a, h => fl_nil (fin a (nil a h))
  | c :: r, a, h => cons a c r h fin fun a' h' => fl_listB f Inv Fin lo no fin nil cons r a' h'
/-- the same for a comprehension -/
theorem ml_list {β : Type} {elt target iter : Expr} {ifs : List Expr} {scope : Scope} {Q : List Value → NS → Prop} (f : β → LS) (Inv : List Value → List β → Prop) (nil : ∀ ys, Inv ys [] → Q ys ns)
    (cons : ∀ ys c r, Inv ys (c :: r) → (∀ ys', Inv ys' r → Ml C n env ns ys' elt target iter ifs scope pos (r.map f) Q) → Ml C n env ns ys elt target iter ifs scope pos (f c :: r.map f) Q) : ∀ l ys, Inv ys l → Ml C n env ns ys elt target iter ifs scope pos (l.map f) Q
  | [], a, h => ml_nil (nil a h)
  | c :: r, a, h => cons a c r h fun a' h' => ml_list f Inv nil cons r a' h'
theorem signs_sx (x : Str) (l : List Nat) : signsL x (sx l) = l.map fun c => [(x, Mine.S (sx [c]))] := by simp [signsL]
theorem set_attr2 {x dx Cc : Addr} {name : Str} {v : Value} {fs : List (Str × Value)} {Q : LS → NS → Prop} (hi : (x, PO.inst Cc dx) ∈ ns) (u : Put dx (.dict fs) (.dict (putF name v fs)) ns ns') (hs : findIn C.K (.ref Cc) "__setattr__" = some (some (.builtin "object.__setattr__"))) (hp : plainOver C.K Cc = true) (ht : takerIn C.K Cc name = some none)
    (hh : hasDictIn C.K Cc = true) (hz : fs.length < 1000) (h : Q ls ns') : ∀ ov' v', er ov' = .ref x → er v' = v → Un C n L ls ns (setAttr ov' name v') Q := fun ov' v' h1 h2 => by
  obtain rfl := er_ref h1
  exact set_attr hi u hs hp ht hh hz h v' h2
theorem set_item2 {a : Addr} {i : Int} {v : Value} {vs : List Value} {Q : LS → NS → Prop} (u : Put a (.list vs) (.list (vs.set i.toNat v)) ns ns') (h0 : 0 ≤ i) (h1 : i < vs.length) (hz : vs.length ≤ sizeLine) (h : Q ls ns') :
    ∀ ov' k v', er ov' = .ref a → er k = I i → er v' = v → Un C n L ls ns (setItem ov' k v') Q := fun ov' k v' e1 e2 e3 => by
  obtain rfl := er_ref e1
  exact set_item u h0 h1 hz h k v' e2 e3
theorem set_itemR2 {a : Addr} {i : Int} {v : Value} {vs : List Value} {Q : LS → NS → Prop} (u : Put a (.list vs) (.list (vs.set (i + vs.length).toNat v)) ns ns') (h0 : i < 0) (h1 : -(vs.length : Int) ≤ i) (hz : vs.length ≤ sizeLine) (h : Q ls ns') :
    ∀ ov' k v', er ov' = .ref a → er k = I i → er v' = v → Un C n L ls ns (setItem ov' k v') Q := fun ov' k v' e1 e2 e3 => by
  obtain rfl := er_ref e1
  exact set_itemR u h0 h1 hz h k v' e2 e3
theorem sb_tup {a : Addr} {vs : List Value} {i : Int} {v : Value} {value slice : Expr} {Q : Value → NS → Prop} (hm : (a, PO.tup vs) ∈ ns) (h0 : 0 ≤ i) (hz : vs.length ≤ sizeLine) (hv : vs[i.toNat]? = some v) (h : Q v ns)
    (hs : ∀ o k, subscripted slice false o k = operate [o, k] (getItem o k)) : Sb C n env ls ns value slice (.ref a) (I i) Q := fun o k ho hk A h₀ s R G Z => by
  obtain rfl := er_ref ho; obtain ⟨t', rfl⟩ := er_int hk
  obtain ⟨xs, m, e, hx, hxs⟩ := getTup Z hm
  obtain ⟨u, hu, eu⟩ := er_get hxs hv
  have hlt : i.toNat < vs.length := by
    rcases Nat.lt_or_ge i.toNat vs.length with q | q
    · exact q
    · rw [List.getElem?_eq_none q] at hv; cases hv
  rw [sizeLine_eq] at hz
  have hsz := er_size hxs
  have hj : seqIndex? i xs.size = some i.toNat := by
    unfold seqIndex?
    rw [hsz]
    have h1 : ¬ i < 0 := by omega
    have h2 : i < vs.length := by omega
    simp [h0, h1, h2]
  exact tail_any hx.typeIs PySem.F.slot_tuple_getitem.lookup (PyProof.Rows.getItem_tuple hx (by omega) (by omega) hj hu (.v Z (.refl _) (eu ▸ h))) (hs _ _)
theorem cl_lenT {a : Addr} {vs : List Value} {Q : Value → NS → Prop} (hm : (a, PO.tup vs) ∈ ns) (hz : vs.length ≤ sizeLine) (h : Q (I vs.length) ns) : Cl C n L ls ns (.builtin "len") [.ref a] Q := fun vs' hvs A h₀ s R G S => by
  obtain ⟨a', rfl, ha⟩ := map_er1 hvs
  obtain rfl := er_ref ha
  obtain ⟨xs, k, e, hx, hv⟩ := getTup S hm
  have hs := er_size hv
  rw [sizeLine_eq] at hz
  exact PyProof.Rows.len_tuple hx (by omega) (.v S (.of _ _) (by simpa [er, hs] using h))
theorem ev_lam2 {params : Arguments} {body : Expr} {scope : Scope} {clos : List (Str × Addr)} {ps : Array Value} {P cc : Addr} {ns1 : NS} {Q : Value → NS → Prop} (he : FnEnv env) (hdef : defaultsOf params env = ([], [])) (hcl : closureFor scope env = Pure.pure clos) (hcode : env.code = .ref cc) (hK : codeHdIn C.K cc P = true)
    (w : Sel P (.raw (tabObj ps)) ns ns1) (ht : TriplesOk ps.toList) (hnf : codeAmong pos ps.toList = none) (hgP : mainGlobals ≠ P)
    (h : ∀ f c' oc fs t ctv pm ps' of, of = kla_obj "<lambda>" (env.qual ++ "<lambda>") params body scope clos pm c' ctv → oc.data = .fields fs → fs[1]? = some (.str (env.qual ++ "<lambda>") t) → Q (.ref f) ((f, .raw of) :: (P, .raw (tabObj ps')) :: (c', .raw oc) :: ns1)) : Ev C n env ls ns (.Lambda params body scope pos) Q :=
  ev_lam he hdef hcl hcode hK w ht hnf hgP fun f c' oc fs t ctv pm ps' hd hv => h f c' oc fs t ctv pm ps' _ rfl hd hv
theorem asl_nil {Q : LS → NS → Prop} (h : Q ls ns) : AsL C n env ls ns [] [] Q := h
theorem asl_cons {e : Expr} {es : List Expr} {v : Value} {vs : List Value} {Q : LS → NS → Prop} (h : As C n env ls ns e v fun l m => AsL C n env l m es vs Q) : AsL C n env ls ns (e :: es) (v :: vs) Q := h
theorem ev_glob2 {x : Str} {v : Value} {Q : Value → NS → Prop} (he : FnEnv env) (hx : env.kindOf x = some .globalImplicit) (hd : (x == ("__debug__" : Str)) = false) (hv : nsIn C.K mainGlobals x = some (some v)) (hr : er v = v) (h : Q v ns) : Ev C n env ls ns (.Name x pos) Q := ev_glob he hx hd hv (by rw [hr]; exact h)
theorem ev_blt2 {x : Str} {v : Value} {Q : Value → NS → Prop} (he : FnEnv env) (hx : env.kindOf x = some .globalImplicit) (hd : (x == ("__debug__" : Str)) = false) (hn : (x == ("__name__" : Str)) = false) (hv : nsIn C.K mainGlobals x = some none)
    (hb : bootBuiltins x = some v) (hr : er v = v) (h : Q v ns) : Ev C n env ls ns (.Name x pos) Q := ev_blt he hx hd hn hv hb (by rw [hr]; exact h)
/-- induction for a while loop -/
theorem wl_ind {α : Type} {t : Expr} {b : List Stmt} {Q : Flow → LS → NS → Prop} (Inv : α → Prop) (μ : α → Nat) (lo : α → LS) (no : α → NS)
    (step : ∀ a, Inv a → (∀ a', μ a' < μ a → Inv a' → Wl C n env (lo a') (no a') t b Q) → Wl C n env (lo a) (no a) t b Q) : ∀ a, Inv a → Wl C n env (lo a) (no a) t b Q := by
  have go : ∀ k a, μ a < k → Inv a → Wl C n env (lo a) (no a) t b Q := fun k => by
    induction k with
    | zero => intro a h; exact absurd h (Nat.not_lt_zero _)
    | succ k ih => intro a h hI; exact step a hI fun a' h' hI' => ih a' (by omega) hI'
  exact fun a => go _ a (Nat.lt_succ_self _)
end

theorem bnd1 {fd : FuncData} {x : Str} {a : Value} (h : ∀ a', bindArgs fd ⟨[a'], []⟩ = Pure.pure [(x, a')]) : ∀ vs', vs'.map er = [a] → ∃ b', bindArgs fd ⟨vs', []⟩ = Pure.pure b' ∧ b'.map (fun p => (p.1, er p.2)) = [(x, a)] := fun vs' e => by
  obtain ⟨a', rfl, rfl⟩ := map_er1 e
  exact ⟨_, h a', rfl⟩
theorem bnd2 {fd : FuncData} {x y : Str} {a b : Value} (h : ∀ a' b', bindArgs fd ⟨[a', b'], []⟩ = Pure.pure [(x, a'), (y, b')]) : ∀ vs', vs'.map er = [a, b] → ∃ b', bindArgs fd ⟨vs', []⟩ = Pure.pure b' ∧ b'.map (fun p => (p.1, er p.2)) = [(x, a), (y, b)] := fun vs' e => by
  obtain ⟨a', b', rfl, rfl, rfl⟩ := map_er2 e
  exact ⟨_, h a' b', rfl⟩
/-! words -/
def hexw (n : Nat) : List Nat := if h : n = 0 then [] else hexw (n / 16) ++ [65 + n % 16]
decreasing_by omega
theorem hexw_zero : hexw 0 = [] := by rw [hexw]; rfl
theorem hexw_pos {n : Nat} (h : 0 < n) : hexw n = hexw (n / 16) ++ [65 + n % 16] := by
  rw [hexw, dif_neg (by omega)]
theorem hexw_len (k : Nat) : ∀ n, n < 16 ^ k → (hexw n).length ≤ k := by
  induction k with
  | zero => intro n h; have : n = 0 := by simpa using h
            subst this; rw [hexw_zero]; exact Nat.le_refl _
  | succ k ih =>
    intro n h
    rcases Nat.eq_zero_or_pos n with rfl | hp
    · rw [hexw_zero]; exact Nat.zero_le _
    · rw [hexw_pos hp, List.length_append]
      have := ih (n / 16) (by rw [Nat.pow_succ] at h; omega)
      simp; exact this
theorem hexw_big {n c : Nat} (h : c ∈ hexw n) : 65 ≤ c ∧ c < 81 := by
  induction n using Nat.strongRecOn with
  | _ n ih =>
    rcases Nat.eq_zero_or_pos n with rfl | hp
    · rw [hexw_zero] at h; cases h
    · rw [hexw_pos hp] at h
      rcases List.mem_append.mp h with h | h
      · exact ih (n / 16) (by omega) h
      · simp at h; omega
/-- what a lead's signs tell -/
structure WS where
  n : Nat
  nt : Nat
  b : Nat
  cnt : List Nat
  deriving DecidableEq
def room (cnt : List Nat) (b : Nat) : List Nat := if cnt.length ≤ b then cnt ++ List.replicate (b - cnt.length + 1) 0 else cnt
def bump (cnt : List Nat) (b : Nat) : List Nat := (room cnt b).set b ((room cnt b).getD b 0 + 1)
def wsGo : WS → List Nat → WS
  | w, [] => w
  | w, c :: r => if c = 32 then wsGo ⟨w.n + 1, w.nt, w.b + 1, w.cnt⟩ r else if c = 9 then wsGo ⟨w.n + 1, w.nt + 1, 0, bump w.cnt w.b⟩ r else w
def wsOf (l : List Nat) : WS := wsGo ⟨0, 0, 0, []⟩ l
theorem wsGo_cons (w : WS) (c : Nat) (r : List Nat) : wsGo w (c :: r) = if c = 32 then wsGo ⟨w.n + 1, w.nt, w.b + 1, w.cnt⟩ r else if c = 9 then wsGo ⟨w.n + 1, w.nt + 1, 0, bump w.cnt w.b⟩ r else w := rfl
theorem room_lt (cnt : List Nat) (b : Nat) : b < (room cnt b).length := by
  unfold room; split
  · rw [List.length_append, List.length_replicate]; omega
  · omega
theorem room_len (cnt : List Nat) (b : Nat) : (room cnt b).length ≤ max cnt.length (b + 1) := by
  unfold room; split
  · rw [List.length_append, List.length_replicate]; omega
  · omega
theorem bump_len (cnt : List Nat) (b : Nat) : (bump cnt b).length = (room cnt b).length := by simp [bump]
theorem wsGo_small : ∀ (l : List Nat) (w : WS) (k : Nat), w.cnt.length ≤ k → w.b + l.length ≤ k → (wsGo w l).cnt.length ≤ k ∧ (wsGo w l).b ≤ k
  | [], w, k, h1, h2 => by simp [wsGo]; simp at h2; omega
  | c :: r, w, k, h1, h2 => by
    unfold wsGo
    simp only [List.length_cons] at h2
    split
    · exact wsGo_small r _ k h1 (by dsimp only; omega)
    · split
      · refine wsGo_small r _ k ?_ (by dsimp only; omega)
        have := room_len w.cnt w.b
        rw [bump_len]
        omega
      · omega
theorem wsGo_app : ∀ (l r : List Nat) (w : WS), (∀ c ∈ l, c = 32 ∨ c = 9) → wsGo w (l ++ r) = wsGo (wsGo w l) r
  | [], r, w, _ => rfl
  | c :: l, r, w, h => by
    have hc := h c (.head _)
    have hl : ∀ c ∈ l, c = 32 ∨ c = 9 := fun c h' => h c (.tail _ h')
    rw [List.cons_append, wsGo_cons, wsGo_cons w c l]
    rcases hc with rfl | rfl
    · exact wsGo_app l r _ hl
    · exact wsGo_app l r _ hl
theorem wsGo_end {c : Nat} {r : List Nat} {w : WS} (h1 : c ≠ 32) (h2 : c ≠ 9) : wsGo w (c :: r) = w := by
  unfold wsGo; rw [if_neg h1, if_neg h2]
theorem wsGo_lead : ∀ (l : List Nat) (w : WS), (∀ c ∈ l, c = 32 ∨ c = 9) → (wsGo w l).n = w.n + l.length
  | [], w, _ => rfl
  | c :: l, w, h => by
    have hl : ∀ c ∈ l, c = 32 ∨ c = 9 := fun c h' => h c (.tail _ h')
    unfold wsGo
    split
    · rw [wsGo_lead l _ hl]; simp only [List.length_cons]; omega
    · split
      · rw [wsGo_lead l _ hl]; simp only [List.length_cons]; omega
      · have := h c (.head _); omega
/-- a Whitespace in the ledger: C its class, l its text -/
def WsF (w : WS) (l : List Nat) (t : Addr) : List (Str × Value) :=
  [(Str.ofString "raw", Mine.S (sx l)), (Str.ofString "n", I (w.n : Int)), (Str.ofString "nt", I (w.nt : Int)), (Str.ofString "norm", .ref t), (Str.ofString "is_simple", .bool (decide (w.cnt.length ≤ 1)))]
def WsB (C x dx t ct : Addr) (l : List Nat) : NS := [(x, .inst C dx), (dx, .dict (WsF (wsOf l) l t)), (t, .tup [.ref ct, I ((wsOf l).b : Int)]), (ct, .tup ((wsOf l).cnt.map fun c : Nat => I (c : Int)))]
structure HasW (C : Addr) (ns : NS) (l : List Nat) (x dx t ct : Addr) : Prop where
  i : (x, PO.inst C dx) ∈ ns
  d : (dx, PO.dict (WsF (wsOf l) l t)) ∈ ns
  t : (t, PO.tup [.ref ct, I ((wsOf l).b : Int)]) ∈ ns
  c : (ct, PO.tup ((wsOf l).cnt.map fun c : Nat => I (c : Int))) ∈ ns
theorem wsOf_small {l : List Nat} (h : l.length ≤ 200) : (wsOf l).cnt.length ≤ 200 ∧ (wsOf l).b ≤ 200 := wsGo_small l ⟨0, 0, 0, []⟩ 200 (by simp) (by simpa using h)
def lrs (w : WS) : Int := max ((w.cnt.length : Int) - 1) w.b
def ilSum (w : WS) (ts : Nat) : Nat → List Nat → Nat
  | a, [] => a
  | a, k :: r => ilSum w ts (a + (ts + k) / ts * w.cnt.getD (ts + k) 0) r
def indent (w : WS) (ts : Nat) : Nat := w.b + ts * (ilSum w ts 0 (List.range (w.cnt.length - ts)) + w.nt)
def lessW (a b : WS) : Bool := if b.n ≤ a.n then false else if a.cnt.length ≤ 1 ∧ b.cnt.length ≤ 1 then decide (a.nt ≤ b.nt) else (List.range (max (lrs a) (lrs b)).toNat).all fun k => decide (indent a (2 + k) < indent b (2 + k))
/-- how many line ends -/
def nl : List Nat → Nat
  | [] => 0
  | c :: r => (if c = 10 then 1 else 0) + nl r
structure LX where
  x : Addr
  dx : Addr
  pb : Addr
  st : Addr
  dst : Addr
  pb2 : Addr
  f : Addr
  c : Addr
  cell : Addr
  sg : Addr
  of : Obj
  oc : Obj
abbrev wsS : Value := Mine.S (Str.ofString "\n\t\r ")
def LxF (k : Int) (st pb : Addr) : List (Str × Value) := [(Str.ofString "lineno", I k), (Str.ofString "instream", .ref st), (Str.ofString "whitespace", wsS), (Str.ofString "pushback", .ref pb)]
def StF (pb f : Addr) : List (Str × Value) := [(Str.ofString "lineno", I 1), (Str.ofString "instream", .none), (Str.ofString "whitespace", wsS), (Str.ofString "pushback", .ref pb), (Str.ofString "read", .ref f)]
/-- the signs that a list holds, its last one next -/
def sigV (cs : List Nat) : List Value := cs.reverse.map fun c => Mine.S (sx [c])
theorem sigV_cons (c : Nat) (r : List Nat) : sigV (c :: r) = sigV r ++ [Mine.S (sx [c])] := by simp [sigV]
abbrev LxS (C : Addr) (a : LX) : NS := [(a.x, .inst C a.dx), (a.st, .inst C a.dst), (a.dst, .dict (StF a.pb2 a.f)), (a.f, .raw a.of), (a.c, .raw a.oc), (a.cell, .cell (some (.ref a.sg)))]
abbrev LxD (a : LX) (K : Int) (q : List Value) (cs : List Nat) : NS := [(a.dx, .dict (LxF (K - (nl cs : Int)) a.st a.pb)), (a.pb, .list q), (a.sg, .list (sigV cs))]
abbrev LxB (C : Addr) (a : LX) (K : Int) (q : List Value) (cs : List Nat) (ns : NS) : NS := LxD a K q cs ++ (LxS C a ++ ns)
/-- what the made function does -/
structure RdOk (C : Cx) (a : LX) : Prop where
  fn : ∃ oc od fd sl, a.of = ⟨oc, od, .func fd, sl⟩
  item : ∀ n L ls ns ns' vs v (Q : Value → NS → Prop), vs.length ≤ 10000 → (a.f, PO.raw a.of) ∈ ns → (a.c, PO.raw a.oc) ∈ ns → (a.cell, PO.cell (some (.ref a.sg))) ∈ ns → Put a.sg (.list (vs ++ [v])) (.list vs) ns ns' → Q v ns' → Cd C (n + 1) L ls ns (.ref a.f) [I 1] Q
  done : ∀ n L ls ns (Q : Value → NS → Prop), (a.f, PO.raw a.of) ∈ ns → (a.c, PO.raw a.oc) ∈ ns → (a.cell, PO.cell (some (.ref a.sg))) ∈ ns → (a.sg, PO.list []) ∈ ns → Q (Mine.S (sx [])) ns → Cd C (n + 1) L ls ns (.ref a.f) [I 1] Q
/-- a quoted word's rest -/
def quoted : List Nat → List Nat → Option (List Nat × List Nat)
  | _, [] => none
  | a, [c] => if c = 34 then some (a, []) else none
  | a, c :: d :: r => if c = 34 then some (a, d :: r) else if c = 92 then quoted (a ++ [d]) r else quoted (a ++ [c]) (d :: r)
abbrev isW (c : Nat) : Prop := c = 10 ∨ c = 9 ∨ c = 13 ∨ c = 32
/-- a bare word's rest -/
def bare : List Nat → List Nat → Option (List Nat × List Nat)
  | _, [] => none
  | a, [c] => if isW c then some (a, []) else none
  | a, c :: d :: r => if isW c then some (a, d :: r) else if c = 92 then bare (a ++ [d]) r else bare (a ++ [c]) (d :: r)
def tokL : List Nat → Option (List Nat × List Nat)
  | [] => some ([], [])
  | c :: r => if isW c then tokL r else if c = 34 then quoted [] r else if c = 92 then (match r with | [] => none | d :: r' => bare [d] r') else bare [c] r
theorem tokL_cons (c : Nat) (r : List Nat) : tokL (c :: r) = if isW c then tokL r else if c = 34 then quoted [] r else if c = 92 then (match r with | [] => none | d :: r' => bare [d] r') else bare [c] r := by
  rw [tokL.eq_def]
section
variable {C : Cx} {n : Nat} {L : Addr} {ls ls' : LS} {fz ns ns' : NS} {env : Env} {pos : Pos}
theorem fg_ind {α : Type} {t : Expr} {it : Value} {b : List Stmt} {Q : Flow → LS → NS → Prop} (Inv : α → Prop) (μ : α → Nat) (lo : α → LS) (no : α → NS)
    (step : ∀ a, Inv a → (∀ a', μ a' < μ a → Inv a' → Fg C n env (lo a') (no a') t it b Q) → Fg C n env (lo a) (no a) t it b Q) : ∀ a, Inv a → Fg C n env (lo a) (no a) t it b Q := by
  have go : ∀ k a, μ a < k → Inv a → Fg C n env (lo a) (no a) t it b Q := fun k => by
    induction k with
    | zero => intro a h; exact absurd h (Nat.not_lt_zero _)
    | succ k ih => intro a h hI; exact step a hI fun a' h' hI' => ih a' (by omega) hI'
  exact fun a => go _ a (Nat.lt_succ_self _)
end
/-- the lead with its runs turned -/
def turnS (x : Str) : Str := Txt.join ⟨#[]⟩ (((Txt.split x (sx [9])).dropLast.reverse).map (· ++ sx [9])) ++ (Txt.split x (sx [9])).getLastD ⟨#[]⟩
def turnL (l : List Nat) : List Nat := (turnS (sx l)).cps.toList
theorem sx_turnL (l : List Nat) : sx (turnL l) = turnS (sx l) := by simp [turnL]
def splitOk (l : List Nat) : Bool := !(Txt.split (sx l) (sx [9])).isEmpty && decide ((Txt.split (sx l) (sx [9])).length ≤ 60) && (Txt.split (sx l) (sx [9])).all fun y => decide (y.length ≤ 60)
def bl (l : List Nat) : Bool := l.all fun c => decide (c = 32 ∨ c = 9)
theorem Sel.pk {a : Addr} {o : PO} {ns ns' : NS} (u : Sel a o ns ns') : Pk ((a, o) :: ns') ns := by
  induction u with
  | hd => exact .refl
  | tl _ ih => exact .pick (.tl .hd) ih
theorem split_ok {l : List Nat} (h : splitOk l = true) : Txt.split (sx l) (sx [9]) ≠ [] ∧ (Txt.split (sx l) (sx [9])).length ≤ 60 ∧ ∀ y ∈ Txt.split (sx l) (sx [9]), y.length ≤ 60 := by
  unfold splitOk at h
  simp only [Bool.and_eq_true, decide_eq_true_eq, Bool.not_eq_true', List.all_eq_true] at h
  exact ⟨fun q => by rw [q] at h; simp at h, h.1.2, h.2⟩
/-- a row with its blanks escaped -/
def escL (l : List Nat) : List Nat := (l.map fun c => if c = 32 ∨ c = 9 then [92, c] else [c]).flatten
def blankOf (s : Nat) : Nat := [32, 9, 13, 10].getD (s % 4) 0
theorem esc_two (c : Nat) : (if c = 32 ∨ c = 9 then [92, c] else [c]).length ≤ 2 := by
  split
  · exact Nat.le_refl 2
  · show 1 ≤ 2; omega
theorem escL_len (l : List Nat) : (escL l).length ≤ 2 * l.length := by
  induction l with
  | nil => simp [escL]
  | cons c r ih =>
    unfold escL at ih ⊢
    rw [List.map_cons, List.flatten_cons, List.length_append, List.length_cons]
    have h1 := esc_two c
    omega
theorem wsOf_n {l : List Nat} (h : bl l = true) : (wsOf l).n = l.length := by
  have hb : ∀ c ∈ l, c = 32 ∨ c = 9 := fun c hc => by
    unfold bl at h
    simpa using List.all_eq_true.mp h c hc
  have := wsGo_lead l ⟨0, 0, 0, []⟩ hb
  unfold wsOf
  rw [this]; simp
theorem quoted_row : ∀ (w acc rest : List Nat), (∀ c ∈ w, c ≠ 34 ∧ c ≠ 92) → quoted acc (w ++ 34 :: rest) = some (acc ++ w, rest)
  | [], acc, [], _ => by simp [quoted]
  | [], acc, d :: r, _ => by simp [quoted]
  | c :: w, acc, rest, h => by
    have hc := h c (.head _)
    have ih := quoted_row w (acc ++ [c]) rest fun x hx => h x (.tail _ hx)
    cases e : w ++ 34 :: rest with
    | nil => simp at e
    | cons d r =>
      rw [List.cons_append, e, quoted, if_neg hc.1, if_neg hc.2, ← e, ih]
      simp
theorem bare_row : ∀ (w acc rest : List Nat) (b : Nat), isW b → (∀ c ∈ w, c = 32 ∨ c = 9 ∨ (¬ isW c ∧ c ≠ 92)) → bare acc (escL w ++ b :: rest) = some (acc ++ w, rest)
  | [], acc, [], b, hb, _ => by simp [escL, bare, hb]
  | [], acc, d :: r, b, hb, _ => by simp [escL, bare, hb]
  | c :: w, acc, rest, b, hb, h => by
    have hc := h c (.head _)
    have ih := bare_row w (acc ++ [c]) rest b hb fun x hx => h x (.tail _ hx)
    have e0 : escL (c :: w) = (if c = 32 ∨ c = 9 then [92, c] else [c]) ++ escL w := by simp [escL]
    rw [e0]
    by_cases hs : c = 32 ∨ c = 9
    · rw [if_pos hs]
      show bare acc (92 :: c :: (escL w ++ b :: rest)) = _
      rw [bare, if_neg (by decide), if_pos rfl, ih]
      simp
    · rw [if_neg hs]
      have h2 : ¬ isW c ∧ c ≠ 92 := by
        rcases hc with q | q | q
        · exact absurd (.inl q) hs
        · exact absurd (.inr q) hs
        · exact q
      cases e : escL w ++ b :: rest with
      | nil => simp at e
      | cons d r =>
        rw [List.append_assoc, e]
        show bare acc (c :: d :: r) = _
        rw [bare, if_neg h2.1, if_neg h2.2, ← e, ih]
        simp
theorem blank_w (s : Nat) : isW (blankOf s) := by
  unfold blankOf
  rcases (by omega : s % 4 = 0 ∨ s % 4 = 1 ∨ s % 4 = 2 ∨ s % 4 = 3) with e | e | e | e <;> rw [e] <;> decide
theorem tok_skip {b : Nat} {r : List Nat} (hb : isW b) : tokL (b :: r) = tokL r := by rw [tokL_cons, if_pos hb]
/-! products as plain functions -/
section
variable {C : Cx} {n : Nat} {L : Addr} {ls ls' : LS} {fz ns ns' : NS} {env : Env} {pos : Pos}
theorem ex_perm {b : List Stmt} {Q : Flow → LS → NS → Prop} (k : ns'.Perm ns) (h : Ex C n env ls ns' b Q) : Ex C n env ls ns b Q := fun A h₀ s R G S => h A h₀ s R G (S.perm k)
/-- a comprehension whose turns make objects -/
theorem ml_gen {α β : Type} {elt target iter : Expr} {ifs : List Expr} {scope : Scope} {Q : List Value → NS → Prop} (f : β → LS) (Inv : α → List β → Prop) (ya : α → List Value) (no : α → NS) (nil : ∀ a, Inv a [] → Q (ya a) (no a))
    (cons : ∀ a c r, Inv a (c :: r) → (∀ a', Inv a' r → Ml C n env (no a') (ya a') elt target iter ifs scope pos (r.map f) Q) → Ml C n env (no a) (ya a) elt target iter ifs scope pos (f c :: r.map f) Q) : ∀ l a, Inv a l → Ml C n env (no a) (ya a) elt target iter ifs scope pos (l.map f) Q
  | [], a, h => ml_nil (nil a h)
  | c :: r, a, h => cons a c r h fun a' h' => ml_gen f Inv ya no nil cons r a' h'
end
/-! the rounds of tagged rows: (group, place) and a number as (unit's part, start's part) -/
/-! numbers out of their parts -/
/-! the leads by their tags -/
theorem nl_cnt (l : List Nat) : Txt.count (sx l) (sx [10]) = (nl l : Int) := by
  rw [show sx [10] = (⟨#[10]⟩ : Str) from rfl, count_cnt]
  show cnt 10 (sx l).cps.toList = _
  rw [show (sx l).cps.toList = l from by simp]
  induction l with
  | nil => rfl
  | cons c r ih => rw [cnt_cons, ih, nl]; push_cast; by_cases h : c = 10 <;> simp [h]
/-- data of texts -/
def strD (l : List Nat) : PyData := .str (sx l)
def small (l : List Nat) : Prop := ∀ c ∈ l, c < 200
theorem lay_str {l : List Nat} (h : small l) : (strD l).canLay0 = true := by
  show PyData.strOk (sx l) = true
  unfold PyData.strOk
  simp only [List.all_toArray]
  rw [List.all_eq_true]
  intro c hc
  have := h c hc
  simp; omega
theorem lay_all : ∀ {ds : List PyData}, (∀ d ∈ ds, d.canLay0 = true) → PyData.canLayAll0 ds = true
  | [], _ => rfl
  | d :: ds, h => by
    rw [PyData.canLayAll0, h d (.head _), lay_all fun x hx => h x (.tail _ hx)]; rfl
theorem depth_all {k : Nat} : ∀ {ds : List PyData}, (∀ d ∈ ds, d.depth ≤ k) → PyData.depthAll ds ≤ k
  | [], _ => Nat.zero_le _
  | d :: ds, h => by
    rw [PyData.depthAll]
    have := h d (.head _)
    have := depth_all fun x hx => h x (.tail _ hx)
    omega
def listD (ls : List (List Nat)) : PyData := .list (ls.map strD)
theorem lay_list {ls : List (List Nat)} (h : ∀ l ∈ ls, small l) : (listD ls).canLay0 = true ∧ (listD ls).depth ≤ 1 := by
  constructor
  · show PyData.canLayAll0 _ = true
    refine lay_all fun d hd => ?_
    obtain ⟨l, hl, rfl⟩ := List.mem_map.mp hd
    exact lay_str (h l hl)
  · show PyData.depthAll _ + 1 ≤ 1
    have := depth_all (k := 0) (ds := ls.map strD) fun d hd => by
      obtain ⟨l, hl, rfl⟩ := List.mem_map.mp hd
      exact Nat.le_refl 0
    omega
theorem shaped_list {ls : List (List Nat)} (h : ∀ l ∈ ls, small l) : SeqAt.shaped (listD ls) = true := by
  have := lay_list h
  unfold SeqAt.shaped
  rw [this.1]; simp; omega
theorem rdA_strs {ns : NS} : ∀ ls : List (List Nat), RdA ns (ls.map fun l => Mine.S (sx l)) (ls.map strD)
  | [] => .nil
  | l :: r => .cons (.str _) (rdA_strs r)
/-! law 01's rows -/
section
variable {C : Cx} {n : Nat} {L : Addr} {ls ls' : LS} {fz ns ns' : NS} {env : Env} {pos : Pos}
end
theorem eqv_self {d : PyData} (h : d.canLay0 = true) : PyData.eqv d d = true := SeqAt.eqv_refl d h
/-! from the law's call to its walk -/
def noLists (K : Frag) : Bool := K.all fun p => match p.2.cls with
  | .type t => t != "list"
  | _ => true
abbrev lstO (vs : Array Value) (n : Nat) : Obj := { cls := .type "list", data := .seq vs n }
section
variable {C : Cx} {base h₁ : Heap} {L sc : Addr} {vs : Array Value} {n0 : Nat} {K : Frag} {m mg mb : Str → Option Value} {p : Program} {loose : List Str} {mean : ExcName → Option Value} {news : List (Addr × Obj)}
theorem hide_ne {b : Addr} {o : Obj} (e : base.get? b = some o) (hs : base.get? sc = some (lstO vs n0)) (h : o.cls ≠ .type "list") : (hideAll base [sc]).get? b = some o :=
  hideAll_get _ e fun q => by
    rw [List.mem_singleton.mp q, hs] at e
    exact h (by rw [← Option.some.inj e])
theorem hide_K (X : K.In base) (hs : base.get? sc = some (lstO vs n0)) (hK : noLists K = true) : K.In (hideAll base [sc]) := fun a o e => by
  refine hide_ne (X a o e) hs fun q => ?_
  have h2 := List.all_eq_true.mp hK (a, o) (mem_of_lookupK e)
  dsimp only at h2
  rw [q] at h2
  exact absurd (show ("list" != "list") = true from h2) (by decide)
theorem hide_ns {a : Addr} {mm : Str → Option Value} (x : base.Ns a mm) (hs : base.get? sc = some (lstO vs n0)) : (hideAll base [sc]).Ns a mm := by
  obtain ⟨o, es, ep, e, hd, r⟩ := x
  refine ⟨o, es, ep, hideAll_get _ e fun q => ?_, hd, r⟩
  rw [List.mem_singleton.mp q, hs] at e
  rw [← Option.some.inj e] at hd
  cases hd
theorem hide_gd (X : C.K.In base) (T : Top p loose mean mg mb base) (hs : base.get? sc = some (lstO vs n0)) (hK : noLists C.K = true) : Gd C (hideAll base [sc]) where
  X := hide_K X hs hK
  T := ⟨p, loose, mg, mb, hide_ns T.g hs, hide_ns T.b hs, (let ⟨mc, a, r⟩ := T.nolimit; ⟨mc, hide_ns a hs, r⟩), T.builtins, T.free⟩
  B := by
    obtain ⟨bm, ob, a1, a2, a3, a4, a5, a6⟩ := T.bmain
    exact ⟨mg, bm, ob, hide_ns T.g hs, a1, a2, hide_ne a3 hs (by rw [a4]; decide), a4, a5, a6⟩
/-- the ledger of the call's own objects -/
inductive NwIs (P : Params) : NS → List (Addr × Obj) → Prop
  | nil : NwIs P [] []
  | cons {a o x ns r} : PO.is P o x → NwIs P ns r → NwIs P ((a, o) :: ns) ((a, x) :: r)
theorem NwIs.mem {P : Params} {ns : NS} {r : List (Addr × Obj)} (h : NwIs P ns r) : ∀ q ∈ ns, ∃ x, (q.1, x) ∈ r ∧ PO.is P q.2 x := by
  induction h with
  | nil => intro q hq; cases hq
  | cons h1 _ ih =>
    intro q hq
    rcases List.mem_cons.mp hq with rfl | hq
    · exact ⟨_, .head _, h1⟩
    · obtain ⟨x, a, b⟩ := ih q hq
      exact ⟨x, .tail _ a, b⟩
theorem hide_st {ls : LS} {ns : NS} (F : Fr base L h₁ m) (N : News base L h₁ news) (hs : base.get? sc = some (lstO vs n0)) (hl : ∀ x v, ls.lookup x = some v → ∃ u, m x = some u ∧ er u = v) (hn : NwIs C.w.params ns news) (nd : (ns.map (·.1)).Nodup) :
    St C (hideAll base [sc]) L ls (ns ++ [(sc, .raw (lstO vs n0))]) h₁ := by
  have hsz : sc < base.objs.size := Heap.lt_size hs
  refine ⟨⟨m, F.ns, hl⟩, fun b o e => F.keep b o (of_hideAll _ e), ?_, fun q hq => ?_, ?_⟩
  · exact none_of_size (Nat.le_trans (Nat.le_of_eq (hideAll_size _ _)) F.above)
  · rcases List.mem_append.mp hq with hq | hq
    · obtain ⟨x, hx, hi⟩ := hn.mem q hq
      obtain ⟨e1, e2, e3⟩ := N _ hx
      refine ⟨e2, ?_, x, e1, hi⟩
      cases q' : (hideAll base [sc]).get? q.1 with
      | none => rfl
      | some o => have := of_hideAll _ q'; rw [e3] at this; cases this
    · rw [List.mem_singleton.mp hq]
      exact ⟨Nat.ne_of_lt (Nat.lt_of_lt_of_le hsz F.above), hideAll_none _ (.head _), _, F.keep _ _ hs, rfl⟩
  · rw [List.map_append]
    refine List.nodup_append.mpr ⟨nd, by simp, fun a ha b hb e => ?_⟩
    obtain ⟨q, hq, rfl⟩ := List.mem_map.mp ha
    obtain ⟨x, hx, _⟩ := hn.mem q hq
    have e3 := (N _ hx).2.2
    rw [show q.1 = sc from by rw [e]; simpa using hb, hs] at e3
    cases e3
theorem ints_er : ∀ {ws : List Value} {xs : List Int}, IntsAre ws xs → ws.map er = xs.map I
  | _, _, .nil => rfl
  | _, _, .cons n t h => by rw [List.map_cons, List.map_cons, ints_er h]; rfl
end
theorem law_run {C : Cx} {n : Nat} {env : Env} {ls : LS} {ns : NS} {body : List Stmt} {Q : Flow → LS → NS → Prop} {h₀ : Heap} {s : Shared} {post : Flow → Shared → Prop} {err : Value → Shared → Prop} (E : Ex C n env ls ns body Q) (R : Rm n (callerA.deeper env)) (G : Gd C h₀) (S : St C h₀ env.locals ls ns s.heap)
    (hQ : ∀ fl s' ls' ns', St C h₀ env.locals ls' ns' s'.heap → Later s s' → Q (erF fl) ls' ns' → post fl s') : wpAny C.M (callerA.deeper env) (execs body env) post err s :=
  wpAny_mono (Mine.T.run E R G S hQ) (fun _ _ z => z) fun _ _ z => z.elim
theorem caller_rm (env : Env) : Rm 8 (callerA.deeper env) := ⟨by show 1 + claimMargin + 1 + 8 < recursionLimit; decide, by show 4 + 3 + 20 * 8 < cLine; decide, rfl⟩
/-- the end: True came back, what stood stands -/
theorem law_good {c : ClaimW} {cl : Str → Option Addr} {mean : ExcName → Option Value} {args : List WData} {s₁ s' : Shared} (hr : ∀ cls, c.raises args cls = false) (hp : c.post args (.bool true) args = true)
    (hk : ∀ b o, s₁.heap.get? b = some o → s'.heap.get? b = some o) (ho : s'.os = s₁.os) (hg : s'.gens = #[]) : GoodW c cl mean args s₁ (.ok (.ret (.bool true))) s' :=
  ⟨.inl ⟨_, .bool true, [], rfl, hr, .bool true, hp, fun _ => ⟨List.nodup_nil, fun a ha => by cases ha⟩⟩, hk, ho, hg⟩
/-! law 02: leads by codes (an outline's number, a way of choices) -/
def topsL : List (List Nat) := [[9], [32, 9], [32, 32, 9], [32, 9, 32, 32], [32, 32, 32, 9], [32, 32, 9, 32, 32], [9], [32, 32, 32, 32], [9, 32, 32, 9], [32, 9, 32, 9]]
def extL (l : List Nat) (c : Nat) : List Nat := [l ++ [32], l ++ [9], 32 :: 9 :: l, 9 :: (l ++ [32])].getD c []
def decL (l : List Nat) (p : List Nat) : List Nat := p.foldl extL l
def equalW (a b : WS) : Bool := decide (a.cnt = b.cnt) && decide (a.b = b.b)
def okLead (l : List Nat) : Bool := splitOk l && bl l && bl (turnL l) && decide ((turnL l).length ≤ 20) && decide (l.length ≤ 20) && decide (wsOf (turnL l) = wsOf l) && decide (0 < l.length)
/-- a lead, and one further down the same way -/
def pairOk (a b : List Nat) : Bool := lessW (wsOf a) (wsOf b) && !equalW (wsOf a) (wsOf b) && !lessW (wsOf b) (wsOf a) && !equalW (wsOf b) (wsOf a)
def topOk (a b : List Nat) : Bool := !lessW (wsOf a) (wsOf b) && !equalW (wsOf a) (wsOf b)
/-- a list with its items reckoned -/
def forceN (c : Nat) (k : Nat → Bool) : Bool := if c = 32 then k 32 else if c = 9 then k 9 else k c
def forceL : List Nat → (List Nat → Bool) → Bool
  | [], k => k []
  | c :: r, k => forceN c fun c' => forceL r fun r' => k (c' :: r')
theorem forceN_eq (c : Nat) (k : Nat → Bool) : forceN c k = k c := by
  unfold forceN; split
  · next h => rw [h]
  · split
    · next h => rw [h]
    · rfl
theorem forceL_eq : ∀ (l : List Nat) (k : List Nat → Bool), forceL l k = k l
  | [], k => rfl
  | c :: r, k => by rw [forceL, forceN_eq, forceL_eq r]
def goL : Nat → List (List Nat) → List Nat → List Nat → Bool
  | 0, ch, l, nx => okLead l && topOk l nx && ch.all fun a => pairOk a l
  | d + 1, ch, l, nx => okLead l && topOk l nx && (ch.all fun a => pairOk a l) && [0, 1, 2, 3].all fun c => forceL (extL l c) fun l' => goL d (l :: ch) l' nx
theorem goL_head : ∀ {d : Nat} {ch : List (List Nat)} {l nx : List Nat}, goL d ch l nx = true → okLead l = true ∧ topOk l nx = true ∧ ∀ a ∈ ch, pairOk a l = true
  | 0, ch, l, nx, h => by
    unfold goL at h
    simp only [Bool.and_eq_true, List.all_eq_true] at h
    exact ⟨h.1.1, h.1.2, h.2⟩
  | d + 1, ch, l, nx, h => by
    unfold goL at h
    simp only [Bool.and_eq_true, List.all_eq_true] at h
    exact ⟨h.1.1.1, h.1.1.2, h.1.2⟩
theorem goL_way : ∀ (p : List Nat) (d : Nat) (ch : List (List Nat)) (l nx : List Nat), goL d ch l nx = true → p.length ≤ d → (∀ c ∈ p, c < 4) →
    okLead (decL l p) = true ∧ topOk (decL l p) nx = true ∧ (∀ a ∈ ch, pairOk a (decL l p) = true) ∧ ∀ k, k < p.length → pairOk (decL l (p.take k)) (decL l p) = true
  | [], d, ch, l, nx, h, _, _ => by
    have := goL_head h
    exact ⟨this.1, this.2.1, this.2.2, fun k hk => absurd hk (Nat.not_lt_zero _)⟩
  | c :: p, 0, ch, l, nx, h, hp, _ => absurd hp (Nat.not_succ_le_zero _)
  | c :: p, d + 1, ch, l, nx, h, hp, hc => by
    have hc4 := hc c (.head _)
    have h2 : goL d (l :: ch) (extL l c) nx = true := by
      unfold goL at h
      simp only [Bool.and_eq_true] at h
      have := List.all_eq_true.mp h.2 c (by rcases (by omega : c = 0 ∨ c = 1 ∨ c = 2 ∨ c = 3) with rfl | rfl | rfl | rfl <;> simp)
      rw [forceL_eq] at this
      exact this
    obtain ⟨a1, a2, a3, a4⟩ := goL_way p d (l :: ch) (extL l c) nx h2 (Nat.le_of_succ_le_succ hp) fun x hx => hc x (.tail _ hx)
    refine ⟨a1, a2, fun a ha => a3 a (.tail _ ha), fun k hk => ?_⟩
    cases k with
    | zero => exact a3 l (.head _)
    | succ k => exact a4 k (Nat.lt_of_succ_lt_succ hk)
theorem chkL : (List.range 10).all (fun t => forceL (topsL.getD t []) fun l => forceL (topsL.getD ((t + 1) % 10) []) fun nx => goL 3 [] l nx) = true := by decide +kernel
/-! the codes of the rows, and how two of them lie -/
abbrev Cde := Nat × List Nat
def stepC (s : Cde) (r : Nat × Nat) : Cde := if r.1 = 0 then (s.1 + 1, []) else (s.1, (if r.1 = s.2.length + 1 then s.2 ++ [r.2 / 4 % 4] else s.2).take r.1)
def decC (a : Cde) : List Nat := decL (topsL.getD (a.1 % 10) []) a.2
def validL : Nat → List Nat → Prop
  | _, [] => True
  | d, l :: r => l ≤ d + 1 ∧ l ≤ 3 ∧ validL l r
def okC (s : Cde) : Prop := s.2.length ≤ 3 ∧ ∀ c ∈ s.2, c < 4
theorem stepC_len {s : Cde} {r : Nat × Nat} (h : r.1 ≤ s.2.length + 1) : (stepC s r).2.length = r.1 := by
  unfold stepC
  split
  · next h0 => simp [h0]
  · dsimp only
    split
    · next h1 => simp [List.length_take]; omega
    · rw [List.length_take]; omega
theorem stepC_ok {s : Cde} {r : Nat × Nat} (hs : okC s) (h : r.1 ≤ s.2.length + 1) (h3 : r.1 ≤ 3) : okC (stepC s r) := by
  refine ⟨by rw [stepC_len h]; exact h3, ?_⟩
  unfold stepC
  split
  · intro c hc; cases hc
  · intro c hc
    have := List.mem_of_mem_take hc
    split at this
    · rcases List.mem_append.mp this with q | q
      · exact hs.2 c q
      · rw [List.mem_singleton.mp q]; omega
    · exact hs.2 c this
theorem stepC_keep {s : Cde} {r : Nat × Nat} {c : Nat} (h0 : 0 < r.1) (hc : c ≤ r.1) (hp : c ≤ s.2.length) : (stepC s r).1 = s.1 ∧ (stepC s r).2.take c = s.2.take c := by
  unfold stepC
  rw [if_neg (by omega)]
  refine ⟨rfl, ?_⟩
  dsimp only
  rw [List.take_take, Nat.min_eq_left hc]
  split
  · rw [List.take_append_of_le_length hp]
  · rfl
theorem seg_keep {c : Nat} : ∀ (seg : List (Nat × Nat)) (s : Cde), (∀ r ∈ seg, c ≤ r.1 ∧ 0 < r.1) → validL s.2.length (seg.map (·.1)) → c ≤ s.2.length →
    (seg.foldl stepC s).1 = s.1 ∧ (seg.foldl stepC s).2.take c = s.2.take c ∧ c ≤ (seg.foldl stepC s).2.length
  | [], s, _, _, hp => ⟨rfl, rfl, hp⟩
  | r :: seg, s, h, hv, hp => by
    have hr := h r (.head _)
    have hl := stepC_len (s := s) (r := r) hv.1
    obtain ⟨k1, k2⟩ := stepC_keep (s := s) hr.2 hr.1 hp
    have ih := seg_keep seg (stepC s r) (fun x hx => h x (.tail _ hx)) (by rw [hl]; exact hv.2.2) (by rw [hl]; exact hr.1)
    rw [List.foldl_cons]
    exact ⟨ih.1.trans k1, ih.2.1.trans k2, ih.2.2⟩
theorem seg_ok : ∀ (seg : List (Nat × Nat)) (s : Cde), okC s → validL s.2.length (seg.map (·.1)) → okC (seg.foldl stepC s)
  | [], s, h, _ => h
  | r :: seg, s, h, hv => by
    rw [List.foldl_cons]
    exact seg_ok seg _ (stepC_ok h hv.1 hv.2.1) (by rw [stepC_len hv.1]; exact hv.2.2)
theorem seg_len : ∀ (seg : List (Nat × Nat)) (s : Cde) (l : Nat), validL s.2.length (seg.map (·.1)) → (seg.map (·.1)).getLast? = some l → (seg.foldl stepC s).2.length = l
  | [], s, l, _, h => by simp at h
  | [r], s, l, hv, h => by
    simp at h
    rw [List.foldl_cons, List.foldl_nil, stepC_len hv.1, h]
  | r :: r2 :: seg, s, l, hv, h => by
    rw [List.foldl_cons]
    refine seg_len (r2 :: seg) _ l (by rw [stepC_len hv.1]; exact hv.2.2) ?_
    rw [← h]
    simp [List.getLast?_cons_cons]
/-- how a row lies to a later one, told by the levels alone: is it deeper, is it equal -/
def segL (ls : List Nat) (i j : Nat) : List Nat := (ls.drop (i + 1)).take (j - i)
def kindL (ls : List Nat) (i j : Nat) : Option (Bool × Bool) :=
  let a := ls.getD i 0
  let b := ls.getD j 0
  let sg := segL ls i j
  if sg.all (fun l => decide (a < l)) = true then some (true, false)
  else if b = a ∧ 0 < a ∧ sg.all (fun l => decide (a ≤ l)) = true then some (false, true)
  else if b < a ∧ 0 < b ∧ sg.all (fun l => decide (b ≤ l)) = true then some (false, false)
  else if b = 0 ∧ sg.dropLast.all (fun l => decide (0 < l)) = true then some (false, false)
  else none
def codeAt (s : Cde) (rows : List (Nat × Nat)) (i : Nat) : Cde := (rows.take (i + 1)).foldl stepC s
theorem validL_drop : ∀ (rows : List (Nat × Nat)) (s : Cde) (i : Nat), i < rows.length → validL s.2.length (rows.map (·.1)) → validL (codeAt s rows i).2.length ((rows.drop (i + 1)).map (·.1))
  | r :: rows, s, 0, _, hv => by
    show validL (stepC s r).2.length _
    rw [stepC_len hv.1]; exact hv.2.2
  | r :: rows, s, i + 1, h, hv => by
    have := validL_drop rows (stepC s r) i (by simpa using h) (by rw [stepC_len hv.1]; exact hv.2.2)
    exact this
theorem validL_take : ∀ (ls : List Nat) (d k : Nat), validL d ls → validL d (ls.take k)
  | [], d, k, h => by simp [validL]
  | l :: ls, d, 0, h => trivial
  | l :: ls, d, k + 1, h => ⟨h.1, h.2.1, validL_take ls l k h.2.2⟩
theorem codeAt_ok {s : Cde} {rows : List (Nat × Nat)} (i : Nat) (hs : okC s) (hv : validL s.2.length (rows.map (·.1))) : okC (codeAt s rows i) :=
  seg_ok _ s hs (by rw [List.map_take]; exact validL_take _ _ _ hv)
theorem codeAt_seg (s : Cde) (rows : List (Nat × Nat)) {i j : Nat} (h : i ≤ j) : codeAt s rows j = ((rows.drop (i + 1)).take (j - i)).foldl stepC (codeAt s rows i) := by
  unfold codeAt
  rw [← List.foldl_append]
  congr 1
  rw [show j + 1 = (i + 1) + (j - i) from by omega, List.take_add]
theorem codeAt_len {s : Cde} {rows : List (Nat × Nat)} {i : Nat} (h : i < rows.length) (hv : validL s.2.length (rows.map (·.1))) : (codeAt s rows i).2.length = (rows.map (·.1)).getD i 0 := by
  refine seg_len _ s _ (by rw [List.map_take]; exact validL_take _ _ _ hv) ?_
  rw [List.map_take, List.getLast?_take]
  simp [List.getD, h]
theorem code_way {a : Cde} (h : okC a) : okLead (decC a) = true ∧ topOk (decC a) (decC (a.1 + 1, [])) = true ∧ ∀ k, k < a.2.length → pairOk (decC (a.1, a.2.take k)) (decC a) = true := by
  have h1 := List.all_eq_true.mp chkL (a.1 % 10) (List.mem_range.mpr (Nat.mod_lt _ (by decide)))
  rw [forceL_eq, forceL_eq] at h1
  obtain ⟨a1, a2, _, a4⟩ := goL_way a.2 3 [] _ _ h1 h.1 h.2
  refine ⟨a1, ?_, a4⟩
  have e : (a.1 % 10 + 1) % 10 = (a.1 + 1) % 10 := by omega
  rw [e] at a2
  exact a2
theorem stepC_top (s : Cde) (r : Nat × Nat) (h : r.1 = 0) : stepC s r = (s.1 + 1, []) := by unfold stepC; rw [if_pos h]
theorem less_self (a : WS) : lessW a a = false := by unfold lessW; rw [if_pos (Nat.le_refl _)]
theorem equal_self (a : WS) : equalW a a = true := by unfold equalW; simp
theorem seg_last {ls : List Nat} {i j : Nat} (hij : i < j) (hj : j < ls.length) : segL ls i j = (segL ls i j).dropLast ++ [ls.getD j 0] := by
  have hne : segL ls i j ≠ [] := by
    intro e
    have := congrArg List.length e
    unfold segL at this
    simp at this; omega
  have h := (List.dropLast_concat_getLast hne).symm
  have e : (segL ls i j).getLast hne = ls.getD j 0 := by
    rw [List.getLast_eq_getElem]
    unfold segL
    simp only [List.getElem_take, List.getElem_drop, List.length_take, List.length_drop]
    simp only [List.getD, List.getElem?_eq_getElem hj, Option.getD_some]
    congr 1
    omega
  rw [e] at h
  exact h
theorem kind_ok {s : Cde} {rows : List (Nat × Nat)} {i j : Nat} {L E : Bool} (hs : okC s) (hv : validL s.2.length (rows.map (·.1))) (hij : i < j) (hj : j < rows.length) (hk : kindL (rows.map (·.1)) i j = some (L, E)) :
    lessW (wsOf (decC (codeAt s rows i))) (wsOf (decC (codeAt s rows j))) = L ∧ equalW (wsOf (decC (codeAt s rows i))) (wsOf (decC (codeAt s rows j))) = E := by
  have hi : i < rows.length := by omega
  have oi := codeAt_ok (s := s) (rows := rows) i hs hv
  have li := codeAt_len hi hv
  have lj := codeAt_len hj hv
  have ej := codeAt_seg s rows (Nat.le_of_lt hij)
  have hvi : validL (codeAt s rows i).2.length (((rows.drop (i + 1)).take (j - i)).map (·.1)) := by
    rw [List.map_take]; exact validL_take _ _ _ (validL_drop rows s i hi hv)
  have eseg : ((rows.drop (i + 1)).take (j - i)).map (·.1) = segL (rows.map (·.1)) i j := by unfold segL; rw [List.map_take, List.map_drop]
  have hlast := seg_last (ls := rows.map (·.1)) hij (by simpa using hj)
  generalize hci : codeAt s rows i = ci at *
  generalize hcj : codeAt s rows j = cj at *
  generalize hsg : (rows.drop (i + 1)).take (j - i) = sg at *
  generalize hLS : rows.map (·.1) = ls at *
  generalize hA : ls.getD i 0 = a at *
  generalize hB : ls.getD j 0 = b at *
  obtain ⟨w1, w2, w3⟩ := code_way oi
  have hmemb : b ∈ segL ls i j := by rw [hlast]; simp
  have all' : ∀ {P : Nat → Prop} [DecidablePred P], (segL ls i j).all (fun l => decide (P l)) = true → ∀ r ∈ sg, P r.1 := fun h r hr => by
    have := List.all_eq_true.mp h r.1 (by rw [← eseg]; exact List.mem_map_of_mem hr)
    simpa using this
  have allb : ∀ {P : Nat → Prop} [DecidablePred P], (segL ls i j).all (fun l => decide (P l)) = true → P b := fun h => by
    have := List.all_eq_true.mp h b hmemb
    simpa using this
  unfold kindL at hk
  simp only [hA, hB] at hk
  split at hk
  · rename_i h1
    cases hk
    have hs1 := all' (P := fun l => a < l) h1
    have hb1 := allb (P := fun l => a < l) h1
    obtain ⟨k1, k2, k3⟩ := seg_keep (c := a) sg ci (fun r hr => ⟨Nat.le_of_lt (hs1 r hr), by have := hs1 r hr; omega⟩) hvi (by omega)
    rw [← ej] at k1 k2 k3
    have e1 : ci = (cj.1, cj.2.take a) := by
      rw [k2, k1, ← li, List.take_length]
    have hok : okC cj := by rw [ej]; exact seg_ok sg ci oi hvi
    have := (code_way hok).2.2 a (by omega)
    rw [← e1] at this
    unfold pairOk at this
    simp only [Bool.and_eq_true, Bool.not_eq_true'] at this
    exact ⟨this.1.1.1, this.1.1.2⟩
  · split at hk
    · rename_i _ h1
      cases hk
      obtain ⟨h1, h2, h3⟩ := h1
      have hs1 := all' (P := fun l => a ≤ l) h3
      obtain ⟨k1, k2, k3⟩ := seg_keep (c := a) sg ci (fun r hr => ⟨hs1 r hr, by have := hs1 r hr; omega⟩) hvi (by omega)
      rw [← ej] at k1 k2 k3
      have e1 : cj = ci := by
        have e2 : cj.2 = ci.2 := by
          rw [← List.take_of_length_le (l := cj.2) (i := a) (by omega), k2, ← li, List.take_length]
        exact Prod.ext k1 e2
      rw [e1]
      exact ⟨less_self _, equal_self _⟩
    · split at hk
      · rename_i _ _ h1
        cases hk
        obtain ⟨h1, h2, h3⟩ := h1
        have hs1 := all' (P := fun l => b ≤ l) h3
        obtain ⟨k1, k2, k3⟩ := seg_keep (c := b) sg ci (fun r hr => ⟨hs1 r hr, by have := hs1 r hr; omega⟩) hvi (by omega)
        rw [← ej] at k1 k2 k3
        have e1 : cj = (ci.1, ci.2.take b) := by
          have e2 : cj.2 = ci.2.take b := by
            rw [← k2, List.take_of_length_le (l := cj.2) (i := b) (by omega)]
          exact Prod.ext k1 e2
        have := w3 b (by omega)
        rw [← e1] at this
        unfold pairOk at this
        simp only [Bool.and_eq_true, Bool.not_eq_true'] at this
        exact ⟨this.1.2, this.2⟩
      · split at hk
        · rename_i _ _ _ h1
          cases hk
          obtain ⟨h1, h2⟩ := h1
          subst h1
          have hne : sg ≠ [] := by
            intro e
            rw [e] at eseg
            rw [← eseg] at hmemb
            cases hmemb
          have hsd := (List.dropLast_concat_getLast hne).symm
          have e3 : sg.dropLast.map (·.1) = (segL ls i j).dropLast := by rw [← eseg, List.map_dropLast]
          have e4 : (sg.getLast hne).1 = 0 := by
            have : (sg.dropLast ++ [sg.getLast hne]).map (·.1) = (segL ls i j).dropLast ++ [0] := by rw [← hsd, eseg]; exact hlast
            rw [List.map_append, e3] at this
            simpa using List.append_cancel_left this
          have hvd : validL ci.2.length (sg.dropLast.map (·.1)) := by
            rw [List.dropLast_eq_take, List.map_take]
            exact validL_take _ _ _ hvi
          obtain ⟨k1, _, _⟩ := seg_keep (c := 0) sg.dropLast ci (fun r hr => ⟨Nat.zero_le _, by
            have := List.all_eq_true.mp h2 r.1 (by rw [← e3]; exact List.mem_map_of_mem hr)
            simpa using this⟩) hvd (Nat.zero_le _)
          have e5 : cj = (ci.1 + 1, []) := by
            rw [ej, hsd, List.foldl_append, List.foldl_cons, List.foldl_nil]
            rw [stepC_top _ _ e4, k1]
          unfold topOk at w2
          simp only [Bool.and_eq_true, Bool.not_eq_true'] at w2
          rw [e5]
          exact w2
        · cases hk
/-! the line's walk as a plain function -/
abbrev Row2 := List Nat × Int
def numL (v : Int) : List Nat := (if v < 0 then [45] else []) ++ hexw v.natAbs
def row2L (r : Row2) : List Nat := r.1 ++ numL r.2
def lessH (a : List Nat) : List Row2 → Bool
  | [] => false
  | c :: _ => lessW (wsOf a) (wsOf c.1)
def mulC (h b : Row2) (r : List Row2) : Bool := lessW (wsOf h.1) (wsOf b.1) && !lessH h.1 r
def addC (h b : Row2) (r : List Row2) : Bool := equalW (wsOf h.1) (wsOf b.1) && !lessH b.1 r
def wk (h : Row2) : List Row2 → List Row2
  | [] => [h]
  | b :: r => if mulC h b r = true then wk (h.1, h.2 * b.2) r else if addC h b r = true then wk (h.1, h.2 + b.2) r else h :: wk b r
def wk1 : List Row2 → List Row2
  | [] => []
  | h :: r => wk h r
abbrev BB : Nat := 16 ^ 60
def wkOk (h : Row2) : List Row2 → Prop
  | [] => h.2.natAbs < BB
  | b :: r => h.2.natAbs < BB ∧ b.2.natAbs < BB ∧ (if mulC h b r = true then wkOk (h.1, h.2 * b.2) r else if addC h b r = true then wkOk (h.1, h.2 + b.2) r else wkOk b r)
def wk1Ok : List Row2 → Prop
  | [] => True
  | h :: r => wkOk h r
/-! the same with tags: a row's place, its number as a sum of products of places -/
abbrev Pol := List (List Nat)
abbrev TR := Nat × Pol
def mulP (a b : Pol) : Pol := a.flatMap fun m => b.map fun m' => m ++ m'
def polOk (p : Pol) : Bool := decide (p.length ≤ 20) && p.all fun m => decide (m.length ≤ 10)
def kindC (ls : List Nat) (i j : Nat) : Option (Bool × Bool) := if i < j ∧ j < ls.length then kindL ls i j else none
def lessHT (ls : List Nat) (i : Nat) : List TR → Option Bool
  | [] => some false
  | c :: _ => (kindC ls i c.1).map (·.1)
def mulT (ls : List Nat) (h b : TR) (r : List TR) : Option Bool := match kindC ls h.1 b.1 with
  | none => none
  | some (true, _) => (lessHT ls h.1 r).map (!·)
  | some (false, _) => some false
def addT' (ls : List Nat) (h b : TR) (r : List TR) : Option Bool := match kindC ls h.1 b.1 with
  | none => none
  | some (_, true) => (lessHT ls b.1 r).map (!·)
  | some (_, false) => some false
def wkT (ls : List Nat) (h : TR) : List TR → Option (List TR)
  | [] => if polOk h.2 = true then some [h] else none
  | b :: r => if (polOk h.2 && polOk b.2) = true then (match mulT ls h b r with
    | none => none
    | some true => wkT ls (h.1, mulP h.2 b.2) r
    | some false => match addT' ls h b r with
      | none => none
      | some true => wkT ls (h.1, h.2 ++ b.2) r
      | some false => (wkT ls b r).map (h :: ·)) else none
def wk1T (ls : List Nat) : List TR → Option (List TR)
  | [] => some []
  | h :: r => wkT ls h r
def wkN (ls : List Nat) : Nat → List TR → Option (List TR)
  | 0, rows => some rows
  | k + 1, rows => (wk1T ls rows).bind (wkN ls k)
/-! numbers out of sums of products -/
def prodI (l : List Int) : Int := l.foldl (· * ·) 1
def evM (x : Nat → Int) (m : List Nat) : Int := prodI (m.map x)
def evP (x : Nat → Int) (p : Pol) : Int := (p.map (evM x)).foldr (· + ·) 0
theorem foldl_mul (l : List Int) (a : Int) : l.foldl (· * ·) a = a * prodI l := by
  unfold prodI
  induction l generalizing a with
  | nil => simp
  | cons b l ih => rw [List.foldl_cons, List.foldl_cons, ih, ih (1 * b), Int.one_mul, Int.mul_assoc]
theorem prodI_app (a b : List Int) : prodI (a ++ b) = prodI a * prodI b := by
  unfold prodI; rw [List.foldl_append, foldl_mul b]; rfl
theorem evM_app (x : Nat → Int) (a b : List Nat) : evM x (a ++ b) = evM x a * evM x b := by unfold evM; rw [List.map_append, prodI_app]
theorem evP_cons (x : Nat → Int) (m : List Nat) (p : Pol) : evP x (m :: p) = evM x m + evP x p := rfl
theorem evP_app (x : Nat → Int) (a b : Pol) : evP x (a ++ b) = evP x a + evP x b := by
  induction a with
  | nil => simp [evP]
  | cons m a ih => rw [List.cons_append, evP_cons, evP_cons, ih, Int.add_assoc]
theorem evP_one (x : Nat → Int) (m : List Nat) (b : Pol) : evP x (b.map fun m' => m ++ m') = evM x m * evP x b := by
  induction b with
  | nil => simp [evP]
  | cons c b ih => rw [List.map_cons, evP_cons, evP_cons, ih, evM_app, Int.mul_add]
theorem evP_mul (x : Nat → Int) (a b : Pol) : evP x (mulP a b) = evP x a * evP x b := by
  induction a with
  | nil => simp [evP, mulP]
  | cons m a ih =>
    have e : mulP (m :: a) b = (b.map fun m' => m ++ m') ++ mulP a b := by simp [mulP]
    rw [e, evP_app, evP_one, ih, evP_cons, Int.add_mul]
theorem evM_bound {x : Nat → Int} (hx : ∀ i, (x i).natAbs ≤ 4096) : ∀ (m : List Nat), (evM x m).natAbs ≤ 4096 ^ m.length
  | [] => by simp [evM, prodI]
  | i :: m => by
    have ih := evM_bound hx m
    have e : evM x (i :: m) = x i * evM x m := by
      have := evM_app x [i] m
      simpa [evM, prodI] using this
    rw [e, Int.natAbs_mul, List.length_cons, Nat.pow_succ, Nat.mul_comm]
    exact Nat.mul_le_mul ih (hx i)
theorem evP_bound {x : Nat → Int} (hx : ∀ i, (x i).natAbs ≤ 4096) {p : Pol} (h : polOk p = true) : (evP x p).natAbs < BB := by
  unfold polOk at h
  simp only [Bool.and_eq_true, decide_eq_true_eq, List.all_eq_true] at h
  have go : ∀ p : Pol, (∀ m ∈ p, m.length ≤ 10) → (evP x p).natAbs ≤ p.length * 4096 ^ 10 := by
    intro p
    induction p with
    | nil => intro _; simp [evP]
    | cons m p ih =>
      intro hm
      have h1 := ih fun y hy => hm y (.tail _ hy)
      have h2 := evM_bound hx m
      have h3 : 4096 ^ m.length ≤ 4096 ^ 10 := Nat.pow_le_pow_right (by decide) (hm m (.head _))
      rw [evP_cons, List.length_cons, Nat.succ_mul]
      have := Int.natAbs_add_le (evM x m) (evP x p)
      omega
  have h4 := go p h.2
  have h5 : p.length * 4096 ^ 10 ≤ 20 * 4096 ^ 10 := Nat.mul_le_mul_right _ h.1
  have h6 : 20 * 4096 ^ 10 < BB := by decide
  omega
def cv2 (x : Nat → Int) (ld : Nat → List Nat) (t : TR) : Row2 := (ld t.1, evP x t.2)
def LdK (ls : List Nat) (ld : Nat → List Nat) : Prop := ∀ i j L E, kindC ls i j = some (L, E) → lessW (wsOf (ld i)) (wsOf (ld j)) = L ∧ equalW (wsOf (ld i)) (wsOf (ld j)) = E
section
variable {x : Nat → Int} {ls : List Nat} {ld : Nat → List Nat}
theorem lessH_cv (h : LdK ls ld) {i : Nat} {r : List TR} {v : Bool} (e : lessHT ls i r = some v) : lessH (ld i) (r.map (cv2 x ld)) = v := by
  cases r with
  | nil => cases e; rfl
  | cons c r =>
    obtain ⟨⟨L, E⟩, ek, rfl⟩ := Option.map_eq_some_iff.mp e
    exact (h _ _ _ _ ek).1
theorem mul_cv (h : LdK ls ld) {a b : TR} {r : List TR} {v : Bool} (e : mulT ls a b r = some v) : mulC (cv2 x ld a) (cv2 x ld b) (r.map (cv2 x ld)) = v := by
  unfold mulT at e
  split at e
  · cases e
  · rename_i E ek
    have h1 := (h _ _ _ _ ek).1
    obtain ⟨w, ew, rfl⟩ := Option.map_eq_some_iff.mp e
    unfold mulC
    rw [show lessW (wsOf (cv2 x ld a).1) (wsOf (cv2 x ld b).1) = true from h1, show lessH (cv2 x ld a).1 _ = w from lessH_cv h ew, Bool.true_and]
  · rename_i E ek
    have h1 := (h _ _ _ _ ek).1
    cases e
    unfold mulC
    rw [show lessW (wsOf (cv2 x ld a).1) (wsOf (cv2 x ld b).1) = false from h1, Bool.false_and]
theorem add_cv (h : LdK ls ld) {a b : TR} {r : List TR} {v : Bool} (e : addT' ls a b r = some v) : addC (cv2 x ld a) (cv2 x ld b) (r.map (cv2 x ld)) = v := by
  unfold addT' at e
  split at e
  · cases e
  · rename_i E ek
    have h1 := (h _ _ _ _ ek).2
    obtain ⟨w, ew, rfl⟩ := Option.map_eq_some_iff.mp e
    unfold addC
    rw [show equalW (wsOf (cv2 x ld a).1) (wsOf (cv2 x ld b).1) = true from h1, show lessH (cv2 x ld b).1 _ = w from lessH_cv h ew, Bool.true_and]
  · rename_i E ek
    have h1 := (h _ _ _ _ ek).2
    cases e
    unfold addC
    rw [show equalW (wsOf (cv2 x ld a).1) (wsOf (cv2 x ld b).1) = false from h1, Bool.false_and]
theorem wk_cv (hx : ∀ i, (x i).natAbs ≤ 4096) (h : LdK ls ld) : ∀ (rows : List TR) (a : TR) (o : List TR), wkT ls a rows = some o → wk (cv2 x ld a) (rows.map (cv2 x ld)) = o.map (cv2 x ld) ∧ wkOk (cv2 x ld a) (rows.map (cv2 x ld))
  | [], a, o, e => by
    unfold wkT at e
    split at e
    · rename_i hp
      cases e
      exact ⟨rfl, evP_bound hx hp⟩
    · cases e
  | b :: r, a, o, e => by
    unfold wkT at e
    split at e
    · rename_i hp
      simp only [Bool.and_eq_true] at hp
      have b1 := evP_bound hx hp.1
      have b2 := evP_bound hx hp.2
      rw [List.map_cons, wk, wkOk]
      split at e
      · cases e
      · rename_i em
        rw [mul_cv (x := x) h em]
        have ih := wk_cv hx h r (a.1, mulP a.2 b.2) o e
        have e1 : cv2 x ld (a.1, mulP a.2 b.2) = ((cv2 x ld a).1, (cv2 x ld a).2 * (cv2 x ld b).2) := by unfold cv2; rw [evP_mul]
        rw [e1] at ih
        simp only [if_true]
        exact ⟨ih.1, b1, b2, ih.2⟩
      · rename_i em
        rw [mul_cv (x := x) h em]
        simp only [Bool.false_eq_true, if_false]
        split at e
        · cases e
        · rename_i ea
          rw [add_cv (x := x) h ea]
          have ih := wk_cv hx h r (a.1, a.2 ++ b.2) o e
          have e1 : cv2 x ld (a.1, a.2 ++ b.2) = ((cv2 x ld a).1, (cv2 x ld a).2 + (cv2 x ld b).2) := by unfold cv2; rw [evP_app]
          rw [e1] at ih
          simp only [if_true]
          exact ⟨ih.1, b1, b2, ih.2⟩
        · rename_i ea
          rw [add_cv (x := x) h ea]
          obtain ⟨o', eo, rfl⟩ := Option.map_eq_some_iff.mp e
          have ih := wk_cv hx h r b o' eo
          simp only [Bool.false_eq_true, if_false]
          exact ⟨by rw [ih.1]; rfl, b1, b2, ih.2⟩
    · cases e
end
/-! the worths -/
def addLast (w : List Int) (v : Int) : List Int := w.dropLast ++ [w.getLastD 0 + v]
def wtF : List Int → List Int → List (Nat × Int) → List Int
  | ws, _, [] => ws
  | ws, way, (l, v) :: r =>
    let w1 := if l = 0 then ws ++ [0] else ws
    let way1 := way.take l ++ [v]
    wtF (if (r.map (·.1)).head? = some (l + 1) then w1 else addLast w1 (prodI way1)) way1 r
def addLastT (w : List Pol) (m : List Nat) : List Pol := w.dropLast ++ [w.getLastD [] ++ [m]]
def wtT : List Pol → List Nat → List (Nat × Nat) → List Pol
  | ws, _, [] => ws
  | ws, way, (l, i) :: r =>
    let w1 := if l = 0 then ws ++ [[]] else ws
    let way1 := way.take l ++ [i]
    wtT (if (r.map (·.1)).head? = some (l + 1) then w1 else addLastT w1 way1) way1 r
theorem wt_cv (x : Nat → Int) : ∀ (r : List (Nat × Nat)) (ws : List Pol) (way : List Nat), (wtT ws way r).map (evP x) = wtF (ws.map (evP x)) (way.map x) (r.map fun q => (q.1, x q.2))
  | [], ws, way => rfl
  | (l, i) :: r, ws, way => by
    rw [wtT, List.map_cons, wtF]
    dsimp only
    rw [wt_cv x r]
    congr 1
    · rw [List.map_map]
      have e0 : ((fun q : Nat × Int => q.1) ∘ fun q : Nat × Nat => (q.1, x q.2)) = fun q : Nat × Nat => q.1 := rfl
      rw [e0]
      have e1 : (if l = 0 then ws ++ [[]] else ws).map (evP x) = if l = 0 then ws.map (evP x) ++ [0] else ws.map (evP x) := by
        split <;> simp [evP]
      have e2 : ∀ (w : List Pol) (m : List Nat), (addLastT w m).map (evP x) = addLast (w.map (evP x)) (evM x m) := by
        intro w m
        unfold addLastT addLast
        rw [List.map_append, List.map_dropLast, List.map_singleton, evP_app]
        congr 2
        have : (w.map (evP x)).getLastD 0 = evP x (w.getLastD []) := by
          simp only [List.getLastD_eq_getLast?, List.getLast?_map]
          cases w.getLast? <;> simp [evP]
        rw [this]
        simp [evP]
      split
      · exact e1
      · rw [e2, e1]
        congr 1
        show prodI ((way.take l ++ [i]).map x) = _
        rw [List.map_append, List.map_take]; rfl
    · rw [List.map_append, List.map_take]; rfl
/-! the finite check: all levels of six rows -/
def seqsL : Nat → Nat → List (List Nat)
  | 0, _ => [[]]
  | k + 1, d => (List.range (min 4 (d + 2))).flatMap fun l => (seqsL k l).map (l :: ·)
theorem seqs_mem : ∀ (ls : List Nat) (d : Nat), validL d ls → ls ∈ seqsL ls.length d
  | [], d, _ => by simp [seqsL]
  | l :: ls, d, h => by
    rw [List.length_cons, seqsL]
    refine List.mem_flatMap.mpr ⟨l, List.mem_range.mpr ?_, List.mem_map.mpr ⟨ls, seqs_mem ls l h.2.2, rfl⟩⟩
    have := h.1
    have := h.2.1
    omega
def initT : List TR := [(0, [[0]]), (1, [[1]]), (2, [[2]]), (3, [[3]]), (4, [[4]]), (5, [[5]])]
def topsI (ls : List Nat) : List Nat := (List.range ls.length).filter fun i => ls.getD i 0 == 0
def resT (ls : List Nat) : List TR := (topsI ls).zip (wtT [] [] (ls.zip (List.range 6)))
theorem chkW : (seqsL 5 0).all (fun r => decide (wkN (0 :: r) 5 initT = some (resT (0 :: r)))) = true := by decide +kernel
theorem walk_check {ls : List Nat} (hl : ls.length = 6) (hv : validL 0 ls) (h0 : ls.head? = some 0) : wkN ls 5 initT = some (resT ls) := by
  cases ls with
  | nil => cases h0
  | cons l r =>
    simp at h0
    subst h0
    have hr : r.length = 5 := by simpa using hl
    have := seqs_mem r 0 hv.2.2
    rw [hr] at this
    exact of_decide_eq_true (List.all_eq_true.mp chkW r this)
/-- five walks -/
def wkR : Nat → List Row2 → List Row2
  | 0, rows => rows
  | k + 1, rows => wkR k (wk1 rows)
def wkROk : Nat → List Row2 → Prop
  | 0, rows => True
  | k + 1, rows => wk1Ok rows ∧ wkROk k (wk1 rows)
theorem wkN_cv {x : Nat → Int} {ls : List Nat} {ld : Nat → List Nat} (hx : ∀ i, (x i).natAbs ≤ 4096) (h : LdK ls ld) : ∀ (k : Nat) (rows o : List TR), wkN ls k rows = some o → wkR k (rows.map (cv2 x ld)) = o.map (cv2 x ld) ∧ wkROk k (rows.map (cv2 x ld))
  | 0, rows, o, e => by cases e; exact ⟨rfl, trivial⟩
  | k + 1, rows, o, e => by
    rw [wkN] at e
    obtain ⟨m, em, e⟩ := Option.bind_eq_some_iff.mp e
    have ih := wkN_cv hx h k m o e
    rw [wkR, wkROk]
    cases rows with
    | nil =>
      cases em
      exact ⟨ih.1, trivial, ih.2⟩
    | cons a r =>
      have hw := wk_cv hx h r a m em
      have e1 : wk1 ((a :: r).map (cv2 x ld)) = m.map (cv2 x ld) := hw.1
      rw [e1]
      exact ⟨ih.1, hw.2, ih.2⟩
/-! words with a sign; numbers; levels; leads; text -/
def valS (a : Nat) (l : List Nat) : Nat := l.foldl (fun a c => if c = 45 then a else 16 * a + (c - 65)) a
theorem valS_cons (a c : Nat) (r : List Nat) : valS a (c :: r) = valS (if c = 45 then a else 16 * a + (c - 65)) r := rfl
theorem valS_snoc (a c : Nat) (r : List Nat) : valS a (r ++ [c]) = if c = 45 then valS a r else 16 * valS a r + (c - 65) := by
  unfold valS
  rw [List.foldl_append]
  rfl
theorem valS_hexw (n : Nat) : valS 0 (hexw n) = n := by
  induction n using Nat.strongRecOn with
  | _ n ih =>
    rcases Nat.eq_zero_or_pos n with rfl | hp
    · rw [hexw_zero]; rfl
    · have h1 := ih (n / 16) (Nat.div_lt_self hp (by decide))
      have h2 : ¬ (65 + n % 16 = 45) := by omega
      rw [hexw_pos hp, valS_snoc, h1, if_neg h2]
      omega
theorem valS_num (v : Int) : valS 0 (numL v) = v.natAbs := by
  have h1 := valS_hexw v.natAbs
  unfold numL
  by_cases h : v < 0
  · rw [if_pos h, List.singleton_append, valS_cons, if_pos rfl]
    exact h1
  · rw [if_neg h, List.nil_append]
    exact h1
theorem numL_big {v : Int} {c : Nat} (h : c ∈ numL v) : c = 45 ∨ (65 ≤ c ∧ c < 81) := by
  unfold numL at h
  rcases List.mem_append.mp h with q | q
  · split at q
    · left; simpa using q
    · cases q
  · exact .inr (hexw_big q)
theorem numL_len {v : Int} (h : v.natAbs < BB) : (numL v).length ≤ 61 := by
  have := hexw_len 60 v.natAbs h
  unfold numL
  rw [List.length_append]
  split <;> simp <;> omega
theorem numL_sign (v : Int) : ((numL v).take 1 == [45]) = decide (v < 0) := by
  unfold numL
  by_cases h : v < 0
  · rw [if_pos h, decide_eq_true h]; rfl
  · rw [if_neg h, decide_eq_false h, List.nil_append]
    cases e : hexw v.natAbs with
    | nil => rfl
    | cons c r =>
      have := hexw_big (n := v.natAbs) (c := c) (by rw [e]; exact .head _)
      simp; omega
theorem tx_one (l : List Nat) : Txt.slice (sx l) none (some (1 : Int)) = sx (l.take 1) := by
  cases l with
  | nil => rfl
  | cons c l => exact tx_take (l := c :: l) (n := 1) (by simp)
def numF (h : Nat) : Int := if h / 64 % 2 = 0 then ((h / 128 % 4096 : Nat) : Int) else -((h / 128 % 4096 : Nat) : Int)
theorem numF_le (h : Nat) : (numF h).natAbs ≤ 4096 := by
  unfold numF
  split <;> omega
def nextLv (ls : List Nat) (h : Nat) : Nat := min (h % 4) (match ls.getLast? with | none => 0 | some l => l + 1)
def levelsF (hs : List Nat) : List Nat := hs.foldl (fun ls h => ls ++ [nextLv ls h]) []
def shownH (h : Nat) (l : List Nat) : List Nat := if h / 16 % 2 = 1 then turnL l else l
def leadsG : Cde → List (Nat × Nat) → List (List Nat)
  | _, [] => []
  | s, q :: r => shownH q.2 (decC (stepC s q)) :: leadsG (stepC s q) r
def aboveOf (s : Cde) : List (List Nat) := (List.range (s.2.length + 1)).map fun k => decC (s.1, s.2.take k)
def textG : List (List Nat × Nat) → List Nat
  | [] => [46, 10]
  | (r, h) :: rs => (if h / 32 % 2 = 0 then [34] ++ r ++ [34] else escL r) ++ [blankOf (h / 128)] ++ textG rs
def normD (cnt : List Nat) (b : Nat) : PyData := .tuple [.tuple (cnt.map fun c : Nat => .int (c : Int)), .int (b : Int)]
theorem norm_shaped (cnt : List Nat) (b : Nat) : SeqAt.shaped (normD cnt b) = true := by
  have h1 : PyData.canLayAll0 (cnt.map fun c : Nat => PyData.int (c : Int)) = true := lay_all fun d hd => by
    obtain ⟨c, _, rfl⟩ := List.mem_map.mp hd; rfl
  have h2 : PyData.depthAll (cnt.map fun c : Nat => PyData.int (c : Int)) ≤ 0 := depth_all fun d hd => by
    obtain ⟨c, _, rfl⟩ := List.mem_map.mp hd; exact Nat.le_refl 0
  unfold SeqAt.shaped normD
  rw [Bool.and_eq_true]
  constructor
  · simp only [PyData.canLay0, PyData.canLayAll0, h1, Bool.and_self]
  · refine decide_eq_true ?_
    simp only [PyData.depth, PyData.depthAll]
    omega
theorem eqv_ints : ∀ a b : List Nat, PyData.eqvAll (a.map fun c : Nat => PyData.int (c : Int)) (b.map fun c : Nat => PyData.int (c : Int)) = decide (a = b)
  | [], [] => rfl
  | [], _ :: _ => rfl
  | _ :: _, [] => rfl
  | x :: a, y :: b => by
    rw [List.map_cons, List.map_cons, PyData.eqvAll, eqv_ints a b, PyData.eqv]
    by_cases h : x = y
    · subst h; simp
    · have : ¬ ((x : Int) = (y : Int)) := by omega
      simp [h, this]
theorem eqv_norm (w1 w2 : WS) : PyData.eqv (normD w1.cnt w1.b) (normD w2.cnt w2.b) = equalW w1 w2 := by
  unfold normD equalW
  rw [PyData.eqv, PyData.eqvAll, PyData.eqv, eqv_ints, PyData.eqvAll, PyData.eqvAll, PyData.eqv, Bool.and_true]
  congr 1
  by_cases h : w1.b = w2.b
  · rw [h]; simp
  · have : ¬ ((w1.b : Int) = (w2.b : Int)) := by omega
    simp [h, this]
/-! rows with signs, in the lexer's line -/
def hdL2 : List Row2 → List Nat
  | [] => [46]
  | r :: _ => row2L r
def rowV2 (rs : List Row2) : List Value := rs.map fun r => Mine.S (sx (row2L r))
def tlQ2 : List Row2 → List Row2 → List Value
  | [], kept => rowV2 kept
  | _ :: rs, kept => rowV2 rs ++ (Mine.S (sx [46]) :: rowV2 kept)
theorem tl2_hd (r : Row2) (rs kept : List Row2) : tlQ2 (r :: rs) kept = Mine.S (sx (hdL2 rs)) :: tlQ2 rs kept := by
  cases rs with
  | nil => rfl
  | cons r2 rs => rfl
theorem tl2_len (rs kept : List Row2) : (tlQ2 rs kept).length = rs.length + kept.length := by
  cases rs with
  | nil => simp [tlQ2, rowV2]
  | cons r rs => simp [tlQ2, rowV2]; omega
theorem tl2_snoc (rs kept : List Row2) (r : Row2) : tlQ2 rs kept ++ [Mine.S (sx (row2L r))] = tlQ2 rs (kept ++ [r]) := by
  cases rs with
  | nil => simp [tlQ2, rowV2]
  | cons r2 rs => simp [tlQ2, rowV2]
theorem tl2_dot (r : Row2) (rs : List Row2) : rowV2 (r :: rs) ++ [Mine.S (sx [46])] = Mine.S (sx (row2L r)) :: tlQ2 (r :: rs) [] := by
  simp [tlQ2, rowV2]
def Rows2Ok (rows : List Row2) : Prop := ∀ r ∈ rows, bl r.1 = true ∧ r.1.length ≤ 20
theorem blanks_of {l : List Nat} (h : bl l = true) : ∀ c ∈ l, c = 32 ∨ c = 9 := fun c hc => by
  unfold bl at h
  simpa using List.all_eq_true.mp h c hc
theorem wsOf_row2 {r : Row2} (h : bl r.1 = true) : wsOf (row2L r) = wsOf r.1 := by
  unfold wsOf row2L
  rw [wsGo_app _ _ _ (blanks_of h)]
  cases e : numL r.2 with
  | nil => rfl
  | cons c q =>
    have hc := numL_big (v := r.2) (c := c) (by rw [e]; exact List.mem_cons_self)
    exact wsGo_end (by omega) (by omega)
theorem row2_n {r : Row2} (h : bl r.1 = true) : (wsOf (row2L r)).n = r.1.length := by rw [wsOf_row2 h, wsOf_n h]
theorem row2_dot {r : Row2} (h : bl r.1 = true) : row2L r ≠ [46] := by
  intro e
  have hm : (46 : Nat) ∈ row2L r := by rw [e]; exact List.mem_cons_self
  unfold row2L at hm
  rcases List.mem_append.mp hm with q | q
  · have := blanks_of h 46 q; omega
  · have := numL_big q; omega
theorem less_dot (u : WS) : lessW u (wsOf [46]) = false := by
  unfold lessW; rw [if_pos (show (wsOf [46]).n ≤ u.n from Nat.zero_le _)]
theorem lessH_hd {a : List Nat} {r : List Row2} (h : Rows2Ok r) : lessW (wsOf a) (wsOf (hdL2 r)) = lessH a r := by
  cases r with
  | nil => exact less_dot _
  | cons c r =>
    have := (h c List.mem_cons_self).1
    show lessW (wsOf a) (wsOf (row2L c)) = lessW (wsOf a) (wsOf c.1)
    rw [wsOf_row2 this]
theorem row2_len {r : Row2} (h : r.1.length ≤ 20) (hv : r.2.natAbs < BB) : (row2L r).length ≤ 100 := by
  have := numL_len hv
  unfold row2L
  rw [List.length_append]
  omega
/-! the text of law 02 read back -/
def row2Ok (w : List Nat) : Prop := ∀ c ∈ w, c = 32 ∨ c = 9 ∨ c = 45 ∨ (65 ≤ c ∧ c < 81)
theorem tok2_quoted {w rest : List Nat} (h : row2Ok w) : tokL (34 :: (w ++ 34 :: rest)) = some (w, rest) := by
  rw [tokL_cons, if_neg (by decide), if_pos rfl, quoted_row]
  · rfl
  · intro c hc
    have := h c hc
    omega
theorem tok2_bare {w rest : List Nat} {b : Nat} (h : row2Ok w) (hne : w ≠ []) (hb : isW b) : tokL (escL w ++ b :: rest) = some (w, rest) := by
  cases w with
  | nil => exact absurd rfl hne
  | cons c w =>
    have hw : ∀ x ∈ w, x = 32 ∨ x = 9 ∨ (¬ isW x ∧ x ≠ 92) := fun x hx => by
      have := h x (List.mem_cons_of_mem _ hx)
      unfold isW
      omega
    have hc := h c List.mem_cons_self
    have e0 : escL (c :: w) = (if c = 32 ∨ c = 9 then [92, c] else [c]) ++ escL w := by simp [escL]
    rw [e0]
    have ih := bare_row w [c] rest b hb hw
    by_cases hs : c = 32 ∨ c = 9
    · rw [if_pos hs]
      show tokL (92 :: c :: (escL w ++ b :: rest)) = _
      rw [tokL_cons, if_neg (by decide), if_neg (by decide), if_pos rfl]
      exact ih
    · rw [if_neg hs]
      show tokL (c :: (escL w ++ b :: rest)) = _
      rw [tokL_cons, if_neg (by unfold isW; omega), if_neg (by omega), if_neg (by omega)]
      exact ih
def RestG (cs : List Nat) (rows : List (List Nat × Nat)) : Prop := cs = textG rows ∨ ∃ b, isW b ∧ cs = b :: textG rows
theorem tokG_text {r : List Nat} {k : Nat} {rs : List (List Nat × Nat)} (h : row2Ok r) (hne : r ≠ []) : ∃ cs', tokL (textG ((r, k) :: rs)) = some (r, cs') ∧ RestG cs' rs := by
  rw [textG]
  by_cases h0 : k / 32 % 2 = 0
  · rw [if_pos h0]
    refine ⟨blankOf (k / 128) :: textG rs, ?_, .inr ⟨_, blank_w _, rfl⟩⟩
    have := tok2_quoted (rest := blankOf (k / 128) :: textG rs) h
    simpa using this
  · rw [if_neg h0]
    refine ⟨textG rs, ?_, .inl rfl⟩
    have := tok2_bare (rest := textG rs) h hne (blank_w (k / 128))
    simpa using this
theorem tokG_next {cs r : List Nat} {k : Nat} {rs : List (List Nat × Nat)} (hr : RestG cs ((r, k) :: rs)) (h : row2Ok r) (hne : r ≠ []) : ∃ cs', tokL cs = some (r, cs') ∧ RestG cs' rs := by
  rcases hr with rfl | ⟨b, hb, rfl⟩
  · exact tokG_text h hne
  · rw [tok_skip hb]; exact tokG_text h hne
theorem tokG_end {cs : List Nat} (hr : RestG cs []) : tokL cs = some ([46], []) := by
  rcases hr with rfl | ⟨b, hb, rfl⟩
  · rfl
  · rw [tok_skip hb]; rfl
/-! law 02: the list above, levels, leads by place -/
theorem above_len (s : Cde) : (aboveOf s).length = s.2.length + 1 := by simp [aboveOf]
theorem above_last (s : Cde) : (aboveOf s)[s.2.length]? = some (decC s) := by
  unfold aboveOf
  rw [List.getElem?_map, List.getElem?_range (Nat.lt_succ_self _)]
  simp
theorem above_take (s : Cde) {k : Nat} (h : k ≤ s.2.length) : (aboveOf s).take (k + 1) = aboveOf (s.1, s.2.take k) := by
  unfold aboveOf
  rw [← List.map_take, List.take_range, List.length_take, Nat.min_eq_left (by omega), Nat.min_eq_left h]
  refine List.map_congr_left fun i hi => ?_
  rw [List.mem_range] at hi
  dsimp only
  rw [List.take_take, Nat.min_eq_left (by omega)]
theorem above_push (s : Cde) (c : Nat) : aboveOf (s.1, s.2 ++ [c]) = aboveOf s ++ [extL (decC s) c] := by
  unfold aboveOf
  rw [List.length_append, List.length_singleton, List.range_succ (n := s.2.length + 1), List.map_append, List.map_singleton]
  congr 1
  · refine List.map_congr_left fun i hi => ?_
    rw [List.mem_range] at hi
    dsimp only
    rw [List.take_append_of_le_length (by omega)]
  · congr 1
    dsimp only
    rw [List.take_of_length_le (by simp)]
    unfold decC decL
    rw [List.foldl_append]; rfl
theorem stepC_push {s : Cde} {l h : Nat} (hl : l = s.2.length + 1) : stepC s (l, h) = (s.1, s.2 ++ [h / 4 % 4]) := by
  unfold stepC
  rw [if_neg (by omega)]
  dsimp only
  rw [if_pos hl, List.take_of_length_le (by simp; omega)]
theorem stepC_cut {s : Cde} {l h : Nat} (h0 : l ≠ 0) (hl : l ≤ s.2.length) : stepC s (l, h) = (s.1, s.2.take l) := by
  unfold stepC
  rw [if_neg h0]
  dsimp only
  rw [if_neg (by omega)]
/-! levels -/
def lvR : Nat → List Nat → List Nat
  | _, [] => []
  | b, h :: r => min (h % 4) b :: lvR (min (h % 4) b + 1) r
theorem levels_go : ∀ (r acc : List Nat), r.foldl (fun ls h => ls ++ [nextLv ls h]) acc = acc ++ lvR (match acc.getLast? with | none => 0 | some l => l + 1) r
  | [], acc => by simp [lvR]
  | h :: r, acc => by
    rw [List.foldl_cons, levels_go r, List.getLast?_concat, lvR, List.append_assoc]
    rfl
theorem levels_eq (hs : List Nat) : levelsF hs = lvR 0 hs := by
  have := levels_go hs []
  simpa [levelsF] using this
theorem lvR_len : ∀ (hs : List Nat) (b : Nat), (lvR b hs).length = hs.length
  | [], b => rfl
  | h :: r, b => by rw [lvR, List.length_cons, List.length_cons, lvR_len r]
theorem lvR_valid : ∀ (hs : List Nat) (d : Nat), validL d (lvR (d + 1) hs)
  | [], d => trivial
  | h :: r, d => ⟨Nat.min_le_right _ _, by have : h % 4 < 4 := Nat.mod_lt _ (by decide); omega, lvR_valid r _⟩
theorem levels_form (h : Nat) (r : List Nat) : levelsF (h :: r) = 0 :: lvR 1 r := by
  rw [levels_eq, lvR, Nat.min_zero]
theorem levels_valid (hs : List Nat) : validL 0 (levelsF hs) := by
  cases hs with
  | nil => trivial
  | cons h r => rw [levels_form]; exact ⟨Nat.zero_le _, Nat.zero_le _, lvR_valid r 0⟩
/-! leads by place -/
theorem leadsG_len : ∀ (rows : List (Nat × Nat)) (s : Cde), (leadsG s rows).length = rows.length
  | [], s => rfl
  | q :: r, s => by rw [leadsG, List.length_cons, List.length_cons, leadsG_len r]
theorem leadsG_get : ∀ (rows : List (Nat × Nat)) (s : Cde) (i : Nat), i < rows.length → (leadsG s rows).getD i [] = shownH (rows.getD i (0, 0)).2 (decC (codeAt s rows i))
  | q :: r, s, 0, _ => rfl
  | q :: r, s, i + 1, h => by
    have ih := leadsG_get r (stepC s q) i (by simpa using h)
    rw [leadsG, List.getD_cons_succ, List.getD_cons_succ, ih]
    rfl
theorem ok_of {l : List Nat} (h : okLead l = true) (k : Nat) : wsOf (shownH k l) = wsOf l ∧ bl (shownH k l) = true ∧ (shownH k l).length ≤ 20 ∧ shownH k l ≠ [] := by
  unfold okLead at h
  simp only [Bool.and_eq_true, decide_eq_true_eq] at h
  obtain ⟨⟨⟨⟨⟨⟨h1, h2⟩, h3⟩, h4⟩, h5⟩, h6⟩, h7⟩ := h
  unfold shownH
  split
  · refine ⟨h6, h3, h4, fun e => ?_⟩
    have a1 := wsOf_n h3
    have a2 := wsOf_n h2
    rw [h6, a2, e] at a1
    simp at a1
    rw [a1] at h7
    simp at h7
  · exact ⟨rfl, h2, h5, fun e => by rw [e] at h7; simp at h7⟩
theorem leads_ok2 {rows : List (Nat × Nat)} {s : Cde} (hs : okC s) (hv : validL s.2.length (rows.map (·.1))) {i : Nat} (h : i < rows.length) : wsOf ((leadsG s rows).getD i []) = wsOf (decC (codeAt s rows i)) ∧ bl ((leadsG s rows).getD i []) = true ∧ ((leadsG s rows).getD i []).length ≤ 20 ∧ (leadsG s rows).getD i [] ≠ [] := by
  rw [leadsG_get rows s i h]
  exact ok_of (code_way (codeAt_ok i hs hv)).1 _
theorem leads_all {rows : List (Nat × Nat)} {s : Cde} (hs : okC s) (hv : validL s.2.length (rows.map (·.1))) : ∀ l ∈ leadsG s rows, bl l = true ∧ l.length ≤ 20 ∧ l ≠ [] := fun l hl => by
  obtain ⟨i, hi, rfl⟩ := List.getElem_of_mem hl
  have h2 := leads_ok2 hs hv (i := i) (by rwa [leadsG_len] at hi)
  rw [List.getD_eq_getElem?_getD, List.getElem?_eq_getElem hi, Option.getD_some] at h2
  exact h2.2
theorem leads_K {rows : List (Nat × Nat)} {s : Cde} (hs : okC s) (hv : validL s.2.length (rows.map (·.1))) : LdK (rows.map (·.1)) (fun i => (leadsG s rows).getD i []) := fun i j L E hk => by
  unfold kindC at hk
  split at hk
  · rename_i h
    have hj : j < rows.length := by simpa using h.2
    dsimp only
    rw [(leads_ok2 hs hv (i := i) (by omega)).1, (leads_ok2 hs hv hj).1]
    exact kind_ok hs hv h.1 hj hk
  · cases hk
/-! law 02: five walks end in the outlines with their worths -/
theorem wk_out : ∀ (rs : List Row2) (h : Row2), wkOk h rs → ∀ r ∈ wk h rs, r.2.natAbs < BB
  | [], h, hk, r, hr => by
    rw [wk, List.mem_singleton] at hr
    rw [hr]; exact hk
  | b :: rs, h, hk, r, hr => by
    obtain ⟨h1, h2, h3⟩ := hk
    rw [wk] at hr
    split at hr
    · rename_i e
      rw [if_pos e] at h3
      exact wk_out rs _ h3 r hr
    · rename_i e
      rw [if_neg e] at h3
      split at hr
      · rename_i e2
        rw [if_pos e2] at h3
        exact wk_out rs _ h3 r hr
      · rename_i e2
        rw [if_neg e2] at h3
        rcases List.mem_cons.mp hr with q | q
        · rw [q]; exact h1
        · exact wk_out rs _ h3 r q
theorem wk_rows : ∀ (rs : List Row2) (h : Row2), Rows2Ok (h :: rs) → Rows2Ok (wk h rs)
  | [], h, hk => by rw [wk]; exact hk
  | b :: rs, h, hk => by
    have hh := hk h List.mem_cons_self
    have hr : Rows2Ok (b :: rs) := fun y hy => hk y (List.mem_cons_of_mem _ hy)
    have hrs : ∀ c : Row2, bl c.1 = true ∧ c.1.length ≤ 20 → Rows2Ok (c :: rs) := fun c hc y hy => by
      rcases List.mem_cons.mp hy with q | q
      · rw [q]; exact hc
      · exact hr y (List.mem_cons_of_mem _ q)
    rw [wk]
    split
    · exact wk_rows rs _ (hrs _ hh)
    · split
      · exact wk_rows rs _ (hrs _ hh)
      · intro y hy
        rcases List.mem_cons.mp hy with q | q
        · rw [q]; exact hh
        · exact wk_rows rs b hr y q
theorem wk_len : ∀ (rs : List Row2) (h : Row2), 0 < (wk h rs).length ∧ (wk h rs).length ≤ rs.length + 1
  | [], h => by rw [wk]; exact ⟨Nat.zero_lt_one, Nat.le_refl _⟩
  | b :: rs, h => by
    rw [wk]
    split
    · have := wk_len rs (h.1, h.2 * b.2); rw [List.length_cons]; omega
    · split
      · have := wk_len rs (h.1, h.2 + b.2); rw [List.length_cons]; omega
      · have := wk_len rs b; rw [List.length_cons, List.length_cons]; omega
/-- what holds before k more walks -/
def WkInv (fin : List Row2) (k : Nat) (rows : List Row2) : Prop := wkROk k rows ∧ Rows2Ok rows ∧ 0 < rows.length ∧ rows.length ≤ 6 ∧ wkR k rows = fin ∧ (k = 0 → ∀ r ∈ rows, r.2.natAbs < BB)
theorem wkInv_step {fin : List Row2} {k : Nat} {r : Row2} {rs : List Row2} (h : WkInv fin (k + 1) (r :: rs)) : wkOk r rs ∧ WkInv fin k (wk r rs) := by
  obtain ⟨h1, h2, h3, h4, h5, h6⟩ := h
  have hl := wk_len rs r
  rw [List.length_cons] at h4
  exact ⟨h1.1, h1.2, wk_rows rs r h2, hl.1, by omega, h5, fun _ => wk_out rs r h1.1⟩
theorem mem_getD6 {α : Type} (d : α) (l : List α) (h : l.length = 6) : l = (List.range 6).map fun i => l.getD i d := by
  match l, h with
  | [a, b, c, d1, e, f], _ => rfl
theorem tops_eq {ls : List Nat} {LD : List (List Nat)} (h1 : ls.length = 6) (h2 : LD.length = 6) : (topsI ls).map (fun i => LD.getD i []) = ((ls.zip LD).filter fun q => q.1 == 0).map (·.2) := by
  have e : ls.zip LD = (List.range 6).map fun i => (ls.getD i 0, LD.getD i []) := by
    rw [show ls.zip LD = ((List.range 6).map fun i => ls.getD i 0).zip ((List.range 6).map fun i => LD.getD i []) from by rw [← mem_getD6 0 ls h1, ← mem_getD6 [] LD h2]]
    rw [List.zip_map']
  rw [e, List.filter_map, List.map_map]
  unfold topsI
  rw [h1]
  rfl
theorem init_eq {LD : List (List Nat)} {NU : List Int} (h1 : LD.length = 6) (h2 : NU.length = 6) : initT.map (cv2 (fun i => NU.getD i 0) fun i => LD.getD i []) = LD.zip NU := by
  match LD, h1 with
  | [a, b, c, d, e, f], _ =>
    match NU, h2 with
    | [n0, n1, n2, n3, n4, n5], _ =>
      simp only [initT, cv2, evP, evM, prodI, List.map_cons, List.map_nil, List.foldl_cons, List.foldl_nil, List.foldr_cons, List.foldr_nil, List.zip_cons_cons, List.zip_nil_right, Int.one_mul, Int.add_zero]
      rfl
/-- the rows due -/
def dueR (ls : List Nat) (LD : List (List Nat)) (NU : List Int) : List Row2 := (((ls.zip LD).filter fun q => q.1 == 0).map (·.2)).zip (wtF [] [] (ls.zip NU))
theorem res_eq {ls : List Nat} {LD : List (List Nat)} {NU : List Int} (h0 : ls.length = 6) (h1 : LD.length = 6) (h2 : NU.length = 6) : (resT ls).map (cv2 (fun i => NU.getD i 0) fun i => LD.getD i []) = dueR ls LD NU := by
  have e : cv2 (fun i => NU.getD i 0) (fun i => LD.getD i []) = Prod.map (fun i => LD.getD i []) (evP fun i => NU.getD i 0) := rfl
  unfold resT dueR
  rw [e, ← List.zip_map, tops_eq h0 h1, wt_cv]
  congr 2
  have e2 : (ls.zip (List.range 6)).map (fun q => (q.1, NU.getD q.2 0)) = ls.zip ((List.range 6).map fun i => NU.getD i 0) := by
    rw [List.zip_map_right]; rfl
  rw [e2, ← mem_getD6 0 NU h2]
theorem law_init {rows : List (Nat × Nat)} {s : Cde} {NU : List Int} (hs : okC s) (h6 : rows.length = 6) (hv : validL 0 (rows.map (·.1))) (hs0 : s.2 = []) (h0 : (rows.map (·.1)).head? = some 0) (hn : NU.length = 6) (hx : ∀ v ∈ NU, v.natAbs ≤ 4096) :
    WkInv (dueR (rows.map (·.1)) (leadsG s rows) NU) 5 ((leadsG s rows).zip NU) := by
  have hv' : validL s.2.length (rows.map (·.1)) := by rw [hs0]; exact hv
  have hll : (leadsG s rows).length = 6 := by rw [leadsG_len, h6]
  have hl6 : (rows.map (·.1)).length = 6 := by rw [List.length_map, h6]
  have hx2 : ∀ i, ((fun i => NU.getD i 0) i).natAbs ≤ 4096 := fun i => by
    dsimp only
    rw [List.getD_eq_getElem?_getD]
    cases e : NU[i]? with
    | none => simp
    | some v => exact hx v (List.mem_of_getElem? e)
  have hw := wkN_cv (x := fun i => NU.getD i 0) hx2 (leads_K hs hv') 5 initT _ (walk_check hl6 hv h0)
  rw [init_eq hll hn, res_eq hl6 hll hn] at hw
  refine ⟨hw.2, fun r hr => ?_, by rw [List.length_zip, hll, hn]; decide, by rw [List.length_zip, hll, hn]; decide, hw.1, fun e => by cases e⟩
  have := leads_all hs hv' r.1 (List.of_mem_zip hr).1
  exact ⟨this.1, this.2.1⟩
/-! law 02: data of a list of levels; a slice -/
def lvD (l : List Nat) : PyData := .list (l.map fun c : Nat => .int (c : Int))
theorem lv_shaped (l : List Nat) : SeqAt.shaped (lvD l) = true := by
  have h1 : PyData.canLayAll0 (l.map fun c : Nat => PyData.int (c : Int)) = true := lay_all fun d hd => by
    obtain ⟨c, _, rfl⟩ := List.mem_map.mp hd; rfl
  have h2 : PyData.depthAll (l.map fun c : Nat => PyData.int (c : Int)) ≤ 0 := depth_all fun d hd => by
    obtain ⟨c, _, rfl⟩ := List.mem_map.mp hd; exact Nat.le_refl 0
  unfold SeqAt.shaped lvD
  rw [Bool.and_eq_true]
  constructor
  · simp only [PyData.canLay0, h1]
  · refine decide_eq_true ?_
    simp only [PyData.depth]
    omega
theorem eqv_lv (a b : List Nat) : PyData.eqv (lvD a) (lvD b) = decide (a = b) := by
  unfold lvD
  rw [PyData.eqv, eqv_ints]
theorem rd_lv {ns : NS} (l : List Nat) : RdA ns (l.map fun c : Nat => I (c : Int)) (l.map fun c : Nat => PyData.int (c : Int)) := by
  have := rd_ints (ns := ns) (l.map fun c : Nat => (c : Int))
  rw [List.map_map, List.map_map] at this
  exact this
theorem tx_part (vs : List Value) (a b : Nat) : pickL vs (some (a : Int)) (some (b : Int)) none = (vs.drop a).take (b - a) := by
  unfold pickL
  rw [slicePick_plain]
  simp only [clipAt_nat, Option.elim, List.size_toArray]
  rcases Nat.le_total a vs.length with h | h
  · rw [Nat.min_eq_left h, List.take_eq_take_iff, List.length_drop]
    omega
  · rw [Nat.min_eq_right h, List.drop_of_length_le (Nat.le_refl _), List.drop_of_length_le h]
    simp
theorem one_eq (l : List Nat) (k : Nat) : decide (l.take 1 = [k]) = decide (l.head? = some k) := by
  cases l <;> simp
theorem last_get {W : List Int} (h : W ≠ []) : (W.map I)[((-1 : Int) + ((W.map I).length : Int)).toNat]? = some (I (W.getLastD 0)) := by
  have hpos : 0 < W.length := List.length_pos_iff.mpr h
  rw [List.length_map, show ((-1 : Int) + (W.length : Int)).toNat = W.length - 1 from by omega, List.getElem?_map, ← List.getLast?_eq_getElem?, List.getLastD_eq_getLast?, List.getLast?_eq_some_getLast h]
  rfl
theorem last_set {W : List Int} (h : W ≠ []) (v : Int) : (W.map I).set ((-1 : Int) + ((W.map I).length : Int)).toNat (I (W.getLastD 0 + v)) = (addLast W v).map I := by
  have hpos : 0 < W.length := List.length_pos_iff.mpr h
  rw [List.length_map, show ((-1 : Int) + (W.length : Int)).toNat = W.length - 1 from by omega, ← List.map_set]
  congr 1
  unfold addLast
  generalize W.getLastD 0 + v = x
  rw [← List.dropLast_concat_getLast h]
  rw [List.set_append_right _ _ (by simp), List.dropLast_concat]
  congr 1
  simp
/-! law 02: the text read back token by token -/
theorem textG_len : ∀ (rows : List (List Nat × Nat)), (∀ r ∈ rows, r.1.length ≤ 100) → (textG rows).length ≤ 300 * rows.length + 2
  | [], _ => by simp [textG]
  | (r, k) :: rs, h => by
    have ih := textG_len rs fun x hx => h x (.tail _ hx)
    have hr := h (r, k) (.head _)
    have he := escL_len r
    dsimp only at hr
    rw [textG]
    simp only [List.length_append, List.length_cons, List.length_nil]
    split
    · simp only [List.length_append, List.length_cons, List.length_nil]; omega
    · omega
theorem restG_len {cs : List Nat} {rows : List (List Nat × Nat)} (hr : RestG cs rows) (h : ∀ r ∈ rows, r.1.length ≤ 100) : cs.length ≤ 300 * rows.length + 3 := by
  have := textG_len rows h
  rcases hr with rfl | ⟨b, _, rfl⟩
  · omega
  · simp only [List.length_cons]; omega
theorem row2_ok {r : Row2} (hb : bl r.1 = true) (hne : r.1 ≠ []) : row2Ok (row2L r) ∧ row2L r ≠ [] ∧ small (row2L r) := by
  have h1 : row2Ok (row2L r) := fun c hc => by
    rcases List.mem_append.mp hc with q | q
    · rcases blanks_of hb c q with q | q <;> omega
    · have := numL_big q; omega
  refine ⟨h1, fun e => hne ?_, fun c hc => by have := h1 c hc; omega⟩
  exact (List.append_eq_nil_iff.mp e).1
def RdInv2 (RS : List (List Nat)) (b : List Nat × List (List Nat)) (r : List (List Nat)) : Prop :=
  b.2 ++ r = RS ∧ ((∃ rem : List (List Nat × Nat), r = rem.map (·.1) ++ [[46]] ∧ RestG b.1 rem ∧ (∀ x ∈ rem, row2Ok x.1 ∧ x.1 ≠ [] ∧ x.1.length ≤ 100) ∧ rem.length ≤ 15) ∨ (r = [] ∧ b.1 = []))
theorem rd2_step {RS : List (List Nat)} {b : List Nat × List (List Nat)} {c : List Nat} {r : List (List Nat)} (h : RdInv2 RS b (c :: r)) : b.1.length ≤ 5000 ∧ ∃ cs', tokL b.1 = some (c, cs') ∧ RdInv2 RS (cs', b.2 ++ [c]) r := by
  obtain ⟨h1, ⟨rem, h2, h3, h4, h5⟩ | ⟨h2, _⟩⟩ := h
  · have hl := restG_len h3 fun x hx => (h4 x hx).2.2
    refine ⟨by omega, ?_⟩
    cases rem with
    | nil =>
      simp only [List.map_nil, List.nil_append, List.cons.injEq] at h2
      obtain ⟨rfl, rfl⟩ := h2
      exact ⟨[], tokG_end h3, by dsimp only; rw [← h1]; simp, .inr ⟨rfl, rfl⟩⟩
    | cons x rem =>
      obtain ⟨x, k⟩ := x
      simp only [List.map_cons, List.cons_append, List.cons.injEq] at h2
      obtain ⟨rfl, rfl⟩ := h2
      have hx := h4 (c, k) (.head _)
      obtain ⟨cs', ht, hr⟩ := tokG_next h3 hx.1 hx.2.1
      simp only [List.length_cons] at h5
      exact ⟨cs', ht, by dsimp only; rw [← h1]; simp, .inl ⟨rem, rfl, hr, fun y hy => h4 y (.tail _ hy), by omega⟩⟩
  · cases h2
theorem rd2_end {RS : List (List Nat)} {b : List Nat × List (List Nat)} (h : RdInv2 RS b []) : b.2 = RS ∧ b.1 = [] := by
  obtain ⟨h1, ⟨rem, h2, _⟩ | ⟨_, h2⟩⟩ := h
  · simp at h2
  · rw [List.append_nil] at h1; exact ⟨h1, h2⟩
theorem validL_le : ∀ (ls : List Nat) (d : Nat), validL d ls → ∀ l ∈ ls, l ≤ 3
  | [], d, _, l, hl => by cases hl
  | a :: ls, d, h, l, hl => by
    rcases List.mem_cons.mp hl with q | q
    · rw [q]; exact h.2.1
    · exact validL_le ls a h.2.2 l q
/-- all that the law's walk asks of heaps, levels, leads, numbers -/
structure LawD (HS LV : List Nat) (LD : List (List Nat)) (NU : List Int) : Prop where
  hs : HS.length = 6
  lv : LV.length = 6
  ld : LD.length = 6
  nu : NU.length = 6
  l0 : LV.head? = some 0
  l3 : ∀ l ∈ LV, l ≤ 3
  n4 : ∀ v ∈ NU, v.natAbs ≤ 4096
  le : ∀ l ∈ LD, bl l = true ∧ l.length ≤ 20 ∧ l ≠ []
  wk : WkInv (dueR LV LD NU) 5 (LD.zip NU)
theorem lawD_of {h0 : Nat} {hs' lv' : List Nat} (h6 : hs'.length + 1 = 6) (hll : lv'.length = hs'.length) (hv : validL 0 (0 :: lv')) : LawD (h0 :: hs') (0 :: lv') (leadsG (h0 + 9, []) ((0 :: lv').zip (h0 :: hs'))) ((h0 :: hs').map numF) := by
  have e1 : ((0 :: lv').zip (h0 :: hs')).map (·.1) = 0 :: lv' := List.map_fst_zip (by simp; omega)
  have hlz : ((0 :: lv').zip (h0 :: hs')).length = 6 := by rw [List.length_zip, List.length_cons, List.length_cons]; omega
  have hok : okC (h0 + 9, []) := ⟨Nat.zero_le _, fun c hc => by cases hc⟩
  have hn : ∀ v ∈ (h0 :: hs').map numF, v.natAbs ≤ 4096 := fun v hv => by
    obtain ⟨k, _, rfl⟩ := List.mem_map.mp hv
    exact numF_le k
  have hnl : ((h0 :: hs').map numF).length = 6 := by rw [List.length_map, List.length_cons]; exact h6
  have hw := law_init (rows := (0 :: lv').zip (h0 :: hs')) (s := (h0 + 9, [])) (NU := (h0 :: hs').map numF) hok hlz (by rw [e1]; exact hv) rfl (by rw [e1]; rfl) hnl hn
  rw [e1] at hw
  exact ⟨by rw [List.length_cons]; exact h6, by rw [List.length_cons]; omega, by rw [leadsG_len]; exact hlz, hnl, rfl, validL_le _ 0 hv, hn, leads_all hok (by rw [e1]; exact hv), hw⟩
theorem row2_small {r : Row2} (hb : bl r.1 = true) : small (row2L r) := fun c hc => by
  rcases List.mem_append.mp hc with q | q
  · rcases blanks_of hb c q with q | q <;> omega
  · have := numL_big q; omega
theorem zip_rows2 {x y : Str} (ls : List (List Nat)) (ks : List Int) : zipL x y (ls.map fun l => Mine.S (sx l)) (ks.map I) = (ls.zip ks).map fun r : Row2 => [(y, I r.2), (x, Mine.S (sx r.1))] := by
  unfold zipL
  rw [List.zip_map, List.map_map]; rfl
theorem zip_tops {x y : Str} (ls : List Nat) (ks : List (List Nat)) : zipL x y (ls.map fun k : Nat => I (k : Int)) (ks.map fun l => Mine.S (sx l)) = (ls.zip ks).map fun r : Nat × List Nat => [(y, Mine.S (sx r.2)), (x, I (r.1 : Int))] := by
  unfold zipL
  rw [List.zip_map, List.map_map]; rfl
theorem fstV {α β γ : Type} (f : α → γ) (ls : List α) (ks : List β) (h : ls.length = ks.length) : ((ls.zip ks).map fun q => f q.1) = ls.map f := by
  conv => rhs; rw [← List.map_fst_zip (l₁ := ls) (l₂ := ks) (by omega), List.map_map]
  rfl
theorem sndV {α β γ : Type} (f : β → γ) (ls : List α) (ks : List β) (h : ls.length = ks.length) : ((ls.zip ks).map fun q => f q.2) = ks.map f := by
  conv => rhs; rw [← List.map_snd_zip (l₁ := ls) (l₂ := ks) (by omega), List.map_map]
  rfl
theorem dueR_eq (LV : List Nat) (LD : List (List Nat)) (NU : List Int) : dueR LV LD NU = (((LV.zip LD).filter fun q => q.1 == 0).map (·.2)).zip (wtF [] [] (LV.zip NU)) := rfl
/-- the line read to its end -/
def EndInv (DU : List (List Nat)) (b : List (List Nat) × List (List Nat)) (r : List (List Nat)) : Prop := b.1 ++ r = DU ∧ (r = b.2 ++ [[]] ∨ (r = [] ∧ b.2 = []))
def vw2 : Program := { PySem.Challenge.pw_sc0057_02 with main := { PySem.Challenge.pw_sc0057_02.main with body := PySem.Challenge.pw_sc0057_02.main.body.filter fun s => match s with
  | .Assign .. => false
  | _ => true } }
theorem left_boot {p q : Program} {loose : List Str} {Xt : Shared → Bool} {α : Type} {Yf : Shared → α} {Ya : World → α} {N : Nat} {g0 : Bool} {L : List Str} (row : String)
    (e : opening p = plainProg p.main.scope.names) (hN : Nat.ble 600 N = true) (f : ∀ s, fenceModules? p s = some s)
    (h0 : ∀ (w : World) (os : OsState), (topFrom treeTable p (w.withFollow row false) N ⟨boot_heap (w.withFollow row false).params, Array.mk [], boot_drawn, boot_toks, os⟩).map (fun s => (openSeen q loose L Xt g0 s, Yf s)) = some (openGood q loose, Ya (w.withFollow row false)))
    (h1 : ∀ (w : World) (os : OsState), (topFrom treeTable p (w.withFollow row true) N ⟨boot_heap (w.withFollow row true).params, Array.mk [], boot_drawn, boot_toks, os⟩).map (fun s => (openSeen q loose L Xt g0 s, Yf s)) = some (openGood q loose, Ya (w.withFollow row true))) :
    ∀ w, (openEnds treeTable p w N).map (fun s => (openSeen q loose L Xt g0 s, Yf s)) = some (openGood q loose, Ya w) := fun w => by
  obtain ⟨⟨h, gs, d, k, os⟩, a, b⟩ := Option.map_eq_some_iff.mp (boot_open e hN f w)
  obtain ⟨rfl, rfl, rfl, rfl⟩ : h = boot_heap w.params ∧ gs = Array.mk [] ∧ d = boot_drawn ∧ k = boot_toks := by simpa using b
  have e2 := World.withFollow_self w row
  unfold openEnds
  rw [a]
  show (topFrom treeTable p w N _).map _ = _
  cases hb : w.params.followText row <;> rw [hb] at e2
  · have h := h0 w os; rw [e2] at h; exact h
  · have h := h1 w os; rw [e2] at h; exact h
structure Wa (A : Prop) : Prop where
  d : A
structure Wb (A : Prop) : Prop where
  d : A
structure Wc (A : Prop) : Prop where
  d : A
def mkHd {A B T R : Prop} (f : Wa A → Wb B → Wc T → R) (pa : PLift A) (pb : PLift B) : (T : Prop) ×' PLift (T → R) := ⟨T, ⟨fun t => f ⟨pa.down⟩ ⟨pb.down⟩ ⟨t⟩⟩⟩
local macro_rules | `(tactic| o_head $H) => `(tactic| (refine holds_open (q := vw2) (loose := [Str.ofString "Whitespace"]) (Xt := fun s => xlAt vw2 [] s && recOk (RowW.records (OpenRow.toRowW (OpenLaw.row PySem.Challenge.rw_sc0057_02))) s) (XP := XL vw2 []) (Yf := Hook.obs $H) (Ya := Hook.val $H) (YP := Hook.says $H) (N := 2746) ?hl (Hook.of $H) (Hook.keeps $H) (fun s e => xl_of s (Bool.and_eq_true_iff.mp e).1) XL.keeps (by rfl) (by rfl) (by rfl) (fun s e => recFacts_of (Bool.and_eq_true_iff.mp e).2) (by rfl) (by first | assumption | decide +kernel) (by decide +kernel) ⟨rfl, rfl, rfl, rfl, rfl, by decide +kernel⟩ ?hw ?hc; case hl => exact left_boot "special-get-raises" (by kernel_rfl) (by rfl) (fun s => by kernel_rfl) (Wa.d (by assumption)) (Wb.d (by assumption))))
noncomputable def hd : (T : Prop) ×' PLift (T → PySem.Challenge.rw_sc0057_02.Holds) := by
  refine' mkHd (fun a b walk => ?h) ⟨?pa⟩ ⟨?pb⟩
  case h =>
    w_on; o_law; k_head; (case hw => w_witness2)
    exact Wc.d walk
  case pa => exact fun w os => by kernel_rfl
  case pb => exact fun w os => by kernel_rfl
noncomputable abbrev C2 (w : World) : Cx := ⟨PySem.Challenge.pw_sc0057_02, w, hd.heap_39 w.params⟩
example (P) : (PySem.Challenge.rw_sc0057_02.name, hd.heap_39 P) = (PySem.Challenge.rw_sc0057_02.name, hd.heap_39 P) := by k_fill; rfl
local macro_rules | `(tactic| walk_at "kis") => `(tactic| ((try dsimp only [C2]); k_is))
local macro_rules | `(tactic| walk_at "env") => `(tactic| exact ⟨rfl, rfl, rfl⟩)
local macro_rules | `(tactic| walk_at "E") => `(tactic| with_reducible first
  | refine ev_int ?_ | refine ev_str ?_ | refine ev_bytes ?_ | refine ev_bool ?_ | refine ev_none ?_
  | refine ev_bin ?_ | refine ev_cmp ?_ | refine ev_un ?_ | refine ev_ifx ?_ | refine ev_and1 ?_ | refine ev_or1 ?_
  | refine ev_slice ?_ (by intro _ _; exact ⟨_, by with_unfolding_all rfl⟩) | refine ev_sub ?_ | refine ep_none ?_ | refine ep_some ?_
  | refine ev_attr ?_ (by with_unfolding_all rfl)
  | refine ar_nil ?_ | refine ar_cons ?_ (by with_unfolding_all rfl)
  | refine cw_blt (by with_unfolding_all rfl) ?_ | refine cw_type (by with_unfolding_all rfl) ?_
  | refine tt_cmp ?_ | refine tt_not ?_ | refine tt_and ?_ | refine tt_or ?_
  | refine tr_bool ?_ | refine tr_int ?_
  | refine bin_add_int ?_ | refine bin_sub_int ?_ | refine bin_mod_int (by decide) ?_
  | refine ip_add_int ?_
  | refine cmp_gt_int ?_ | refine cmp_ge_int ?_ | refine cmp_le_int ?_ | refine cmp_lt_int ?_ | refine cmp_eq_int ?_ | refine cmp_ne_int ?_
  | refine cmp_eq_str ?_ | refine cmp_ne_str ?_ | refine cmp_in_str ?_
  | refine un_neg_int ?_
  | refine ex_nil ?_ | refine ex_cons ?_ | refine x_ret ?_ | refine x_ret0 ?_ | refine x_break ?_ | refine x_continue ?_ | refine x_if ?_ | refine x_while ?_
  | refine asl_nil ?_ | refine asl_cons ?_ | refine as_attr ?_ | refine as_sub ?_
  | refine x_assign ?_ (by with_unfolding_all rfl) (by with_unfolding_all rfl) (by intro _; with_unfolding_all rfl)
  | refine x_assign2 ?_ (by with_unfolding_all rfl) (by with_unfolding_all rfl)
  | refine x_assign3 ?_ (by with_unfolding_all rfl) (by with_unfolding_all rfl)
  | refine x_expr ?_ (by with_unfolding_all rfl) (by with_unfolding_all rfl))
local macro_rules | `(tactic| walk_at "N") => `(tactic| with_reducible first
  | (refine ev_loc (by with_unfolding_all walk_at "env") (by with_unfolding_all rfl) (by with_unfolding_all rfl) (by with_unfolding_all rfl) ?_)
  | (refine as_name (by with_unfolding_all walk_at "env") (by with_unfolding_all rfl) ?_))
local macro_rules | `(tactic| walk_at "F") => `(tactic| refine ev_glob2 (by walk_at "env") (by rfl) (by rfl) (by walk_at "kis") (by rfl) ?_)
local macro_rules | `(tactic| walk_at "call") => `(tactic| with_reducible first | refine ev_meth ?_ (by with_unfolding_all rfl) | refine ev_call ?_ (by with_unfolding_all rfl))
local macro_rules | `(tactic| walk_at "cwK") => `(tactic| refine cw_K (by walk_at "kis") (by rfl) ?_)
local macro_rules | `(tactic| walk_at "G") => `(tactic| repeat first | walk_at "E" | walk_at "N")
local macro_rules | `(tactic| walk_at "for") => `(tactic| ((with_reducible refine x_for ?_ (by intro _; with_unfolding_all rfl)); walk_at "G"))
local macro_rules | `(tactic| walk_at "ls") => `(tactic| repeat first | exact trivial | refine ⟨rfl, ?_⟩)
local macro_rules | `(tactic| walk_at "mem") => `(tactic| repeat first | exact List.Mem.head _ | refine List.Mem.tail _ ?_)
local macro_rules | `(tactic| walk_at "sel") => `(tactic| repeat first | exact Sel.hd | apply Sel.tl)
local macro_rules | `(tactic| walk_at "put") => `(tactic| repeat first | exact Put.hd | apply Put.tl)
local macro_rules | `(tactic| walk_at "pk") => `(tactic| repeat first | exact Pk.refl | refine Pk.pick (by walk_at "sel") ?_ | refine Pk.drop ?_)
local macro_rules | `(tactic| walk_at "tup") => `(tactic| refine as_tup (by walk_at "mem") (by rfl) (by rfl) ?_)
local macro_rules | `(tactic| walk_at "sub") => `(tactic| repeat first | exact List.Sublist.refl _ | exact List.nil_sublist _ | apply List.Sublist.cons_cons | apply List.Sublist.cons)
local macro_rules | `(tactic| walk_at "seta") => `(tactic| refine set_attr2 (by walk_at "mem") (by walk_at "put") (by walk_at "kis") (by walk_at "kis") (by walk_at "kis") (by walk_at "kis") (of_decide_eq_true rfl) ?_)
local macro_rules | `(tactic| walk_at "own") => `(tactic| refine at_own (by walk_at "mem") (by walk_at "mem") (by walk_at "kis") (by walk_at "kis") (by walk_at "kis") (by walk_at "kis") (by rfl) (by rfl) ?_)
local macro_rules | `(tactic| walk_at "B len") => `(tactic| refine ev_blt2 (v := .builtin "len") (by walk_at "env") (by rfl) (by rfl) (by rfl) (by walk_at "kis") (by kernel_rfl) (by rfl) ?_)
local macro_rules | `(tactic| walk_at "B range") => `(tactic| refine ev_blt2 (v := .type "range") (by walk_at "env") (by rfl) (by rfl) (by rfl) (by walk_at "kis") (by kernel_rfl) (by rfl) ?_)
local macro_rules | `(tactic| walk_at "B max") => `(tactic| refine ev_blt2 (v := .builtin "max") (by walk_at "env") (by rfl) (by rfl) (by rfl) (by walk_at "kis") (by kernel_rfl) (by rfl) ?_)
local macro_rules | `(tactic| walk_at "B min") => `(tactic| refine ev_blt2 (v := .builtin "min") (by walk_at "env") (by rfl) (by rfl) (by rfl) (by walk_at "kis") (by kernel_rfl) (by rfl) ?_)
local macro_rules | `(tactic| walk_at "B abs") => `(tactic| refine ev_blt2 (v := .builtin "abs") (by walk_at "env") (by rfl) (by rfl) (by rfl) (by walk_at "kis") (by kernel_rfl) (by rfl) ?_)
local macro_rules | `(tactic| walk_at "B int") => `(tactic| refine ev_blt2 (v := .type "int") (by walk_at "env") (by rfl) (by rfl) (by rfl) (by walk_at "kis") (by kernel_rfl) (by rfl) ?_)
local macro_rules | `(tactic| walk_at "B divmod") => `(tactic| refine ev_blt2 (v := .builtin "divmod") (by walk_at "env") (by rfl) (by rfl) (by rfl) (by walk_at "kis") (by kernel_rfl) (by rfl) ?_)
local macro_rules | `(tactic| walk_at "B chr") => `(tactic| refine ev_blt2 (v := .builtin "chr") (by walk_at "env") (by rfl) (by rfl) (by rfl) (by walk_at "kis") (by kernel_rfl) (by rfl) ?_)
local macro_rules | `(tactic| walk_at "B ord") => `(tactic| refine ev_blt2 (v := .builtin "ord") (by walk_at "env") (by rfl) (by rfl) (by rfl) (by walk_at "kis") (by kernel_rfl) (by rfl) ?_)
local macro_rules | `(tactic| walk_at "B tuple") => `(tactic| refine ev_blt2 (v := .type "tuple") (by walk_at "env") (by rfl) (by rfl) (by rfl) (by walk_at "kis") (by kernel_rfl) (by rfl) ?_)
local macro_rules | `(tactic| walk_at "B list") => `(tactic| refine ev_blt2 (v := .type "list") (by walk_at "env") (by rfl) (by rfl) (by rfl) (by walk_at "kis") (by kernel_rfl) (by rfl) ?_)
local macro_rules | `(tactic| walk_at "B iter") => `(tactic| refine ev_blt2 (v := .builtin "iter") (by walk_at "env") (by rfl) (by rfl) (by rfl) (by walk_at "kis") (by kernel_rfl) (by rfl) ?_)
local macro_rules | `(tactic| walk_at "B zip") => `(tactic| refine ev_blt2 (v := .type "zip") (by walk_at "env") (by rfl) (by rfl) (by rfl) (by walk_at "kis") (by kernel_rfl) (by rfl) ?_)
local macro_rules | `(tactic| walk_at "def") => `(tactic| (refine' cd_def ?ho ?hcd ?hb ?hl ?hc ?h ?a ?b ?c; (case ho => walk_at "kis"); (case hcd => walk_at "kis"); (case a => rfl); (case b => rfl); (case c => rfl); (case hb => first | exact bnd1 fun _ => rfl | exact bnd2 fun _ _ => rfl | exact bnd3 fun _ _ _ => rfl | exact bnd0 rfl); (case hl => exact locs rfl); (case hc => decide); (case' h => (intro L'; dsimp only [List.reverse, List.reverseAux]))))
theorem letters_at {j : Nat} (hj : j < 16) : Txt.item (Str.ofString "ABCDEFGHIJKLMNOP") (j : Int) = sx [65 + j] := by
  revert j; decide +kernel
theorem fmod16 (j : Nat) : ((j : Int).fmod 16) = ((j % 16 : Nat) : Int) := by
  rw [Int.fmod_eq_emod_of_nonneg _ (by decide)]; rfl
theorem fdiv16 (j : Nat) : ((j : Int).fdiv 16) = ((j / 16 : Nat) : Int) := by
  rw [Int.fdiv_eq_ediv_of_nonneg _ (by decide)]; rfl
theorem pylong_small {a b : Int} (h : b.natAbs.log2 / 30 + 1 ≤ 300) : Builtin.divisionGoesByPylong a b = false := by
  unfold Builtin.divisionGoesByPylong
  dsimp only
  rw [decide_eq_false (by split <;> omega), Bool.false_and]
/-- octets of letters -/
abbrev ox (l : List Nat) : Array UInt8 := (l.map UInt8.ofNat).toArray
theorem ox_app (a b : List Nat) : ox a ++ ox b = ox (a ++ b) := by simp
theorem ap_at {j : Nat} (hj : j < 16) : KBy.picked [65, 66, 67, 68, 69, 70, 71, 72, 73, 74, 75, 76, 77, 78, 79, 80].toArray (some (j : Int)) (some ((j : Int) + 1)) = ox [65 + j] := by
  revert j; decide +kernel
theorem int2ap {w : World} {n : Nat} {L : Addr} {ls : LS} {ns : NS} {i : Int} {Q : Value → NS → Prop} (hk : i.natAbs < 16 ^ 60) (h : Q (Y (ox (hexw i.natAbs))) ns) : Cd (C2 w) (n + 1) L ls ns (.ref 94) [I i] Q := by
  walk_at "def"
  walk_at "G"
  walk_at "call"
  walk_at "B int"
  walk_at "G"
  walk_at "call"
  walk_at "B abs"
  walk_at "G"
  refine cl_abs ?_
  walk_at "G"
  refine cl_int ?_
  walk_at "G"
  refine wl_st (ls' := [(Str.ofString "val", Y (ox [])), (Str.ofString "AP", Y [65, 66, 67, 68, 69, 70, 71, 72, 73, 74, 75, 76, 77, 78, 79, 80].toArray), (Str.ofString "num", I (i.natAbs : Int))]) (ns' := ns) (by walk_at "ls") .refl (wl_ind (fun a : Nat × List Nat => hexw a.1 ++ a.2 = hexw i.natAbs) (·.1) (fun a => [(Str.ofString "val", Y (ox a.2)), (Str.ofString "AP", Y [65, 66, 67, 68, 69, 70, 71, 72, 73, 74, 75, 76, 77, 78, 79, 80].toArray), (Str.ofString "num", I (a.1 : Int))]) (fun _ => ns) (fun a hI ih => ?_) (i.natAbs, []) (by simp))
  obtain ⟨j, acc⟩ := a
  dsimp only at hI ih ⊢
  refine wl_step ?_
  refine tt_val ?_
  walk_at "G"
  have hlen := hexw_len 60 _ hk
  rw [← hI, List.length_append] at hlen
  by_cases hj : 0 < j
  · rw [if_pos (by simpa using by omega)]
    walk_at "G"
    walk_at "call"
    walk_at "B divmod"
    walk_at "G"
    refine cl_divmod (by decide) (pylong_small (by decide)) fun t => ?_
    rw [fdiv16, fmod16]
    walk_at "tup"
    walk_at "G"
    refine sl_bytes (lo := some ((j % 16 : Nat) : Int)) (hi := some (((j % 16 : Nat) : Int) + 1)) (by decide) ?_
    rw [ap_at (by omega)]
    walk_at "G"
    refine bin_add_bytes (by simp; omega) ?_
    rw [ox_app]
    walk_at "G"
    exact wl_st (ls' := [(Str.ofString "val", Y (ox ([65 + j % 16] ++ acc))), (Str.ofString "AP", Y [65, 66, 67, 68, 69, 70, 71, 72, 73, 74, 75, 76, 77, 78, 79, 80].toArray), (Str.ofString "num", I ((j / 16 : Nat) : Int))]) (by walk_at "ls") (by walk_at "pk") (ih (j / 16, [65 + j % 16] ++ acc) (by dsimp only; omega) (by rw [← hI, hexw_pos hj]; simp))
  · rw [if_neg (by simpa using by omega)]
    have : j = 0 := by omega
    subst this
    rw [hexw_zero, List.nil_append] at hI
    subst hI
    walk_at "G"
    exact ⟨ns, .refl _, h⟩
theorem flat_one (l : List Nat) : (l.map fun c => [c]).flatten = l := by induction l with
  | nil => rfl
  | cons c l ih => rw [List.map_cons, List.flatten_cons, ih]; rfl
theorem sum_one (l : List Nat) : (((l.map fun c => [c]).map sx).map fun y => y.length).sum = l.length := by induction l with
  | nil => rfl
  | cons c l ih => rw [List.map_cons, List.map_cons, List.map_cons, List.sum_cons, ih]; simp [Str.length]; omega
theorem chr_loop {w : World} {n : Nat} {env : Env} {ns : NS} {elt target iter : Expr} {scope : Scope} {pos : Pos} {Q : List Value → NS → Prop} {x : Str} (hz : ∀ (ys : List Value) (c : Nat) (rest : List LS) , c < 256 → ys.length ≤ 100 → Ml (C2 w) n env ns (ys ++ [Mine.S (sx [c])]) elt target iter [] scope pos rest Q → Ml (C2 w) n env ns ys elt target iter [] scope pos ([(x, I (c : Int))] :: rest) Q) :
    ∀ (l : List Nat) (ys : List Value), (∀ c ∈ l, c < 256) → ys.length + l.length ≤ 100 → Q (ys ++ l.map fun c => Mine.S (sx [c])) ns → Ml (C2 w) n env ns ys elt target iter [] scope pos (octetsL x (ox l)) Q
  | [], ys, _, _, h => by
    refine ml_nil ?_
    simpa using h
  | c :: l, ys, hl, hy, h => by
    have hc := hl c (.head _)
    have e : octetsL x (ox (c :: l)) = [(x, I (c : Int))] :: octetsL x (ox l) := by
      simp [octetsL, UInt8.toNat_ofNat']; omega
    rw [e]
    simp only [List.length_cons] at hy
    refine hz ys c _ hc (by omega) (chr_loop hz l _ (fun c' h' => hl c' (.tail _ h')) (by simp; omega) ?_)
    simpa using h
theorem wsNew {w : World} {n : Nat} {L : Addr} {ls : LS} {ns : NS} {l : List Nat} {Q : Value → NS → Prop} (hl : l.length ≤ 200) (h : ∀ x dx t ct, Q (.ref x) (WsB 83 x dx t ct l ++ ns)) : Cd (C2 w) (n + 2) L ls ns (.ref 83) [Mine.S (sx l)] Q := by
  refine cd_new (by walk_at "kis") (by walk_at "kis") (by walk_at "kis") fun x dx => ?_
  walk_at "def"
  walk_at "G"
  walk_at "seta"
  walk_at "G"
  refine x_swap (by walk_at "env") (by rfl) (by rfl) ?_
  refine ev_tup (by rfl) (by rfl) ?_
  walk_at "G"
  walk_at "F"
  refine at_clsval (mc := .type "type") (by walk_at "kis") (by walk_at "kis") (by rfl) ?_
  walk_at "G"
  walk_at "F"
  refine at_clsval (mc := .type "type") (by walk_at "kis") (by walk_at "kis") (by rfl) ?_
  walk_at "G"
  refine ⟨of_decide_eq_true rfl, fun t0 => ⟨t0, _, _, rfl, .head _, ?_⟩⟩
  walk_at "G"
  refine ev_list (by rfl) ?_
  walk_at "G"
  refine ⟨of_decide_eq_true rfl, fun ca => ?_⟩
  walk_at "G"
  walk_at "for"
  walk_at "own"
  refine itr_str ?_
  rw [signs_sx]
  refine fl_st (ls' := [(Str.ofString "count", .ref ca), (Str.ofString "b", I ((0 : Nat) : Int)), (Str.ofString "n", I ((0 : Nat) : Int)), (Str.ofString "nt", I ((0 : Nat) : Int)), (Str.ofString "S", Mine.S (sx [32])), (Str.ofString "T", Mine.S (sx [9])), (Str.ofString "self", .ref x)])
    (ns' := [(ca, .list []), (x, .inst 83 dx), (dx, .dict [(Str.ofString "raw", Mine.S (sx l))])] ++ ns) (by walk_at "ls") (by walk_at "pk")
    (fl_listB (α := WS × Addr) _ (fun a r => wsGo a.1 r = wsOf l ∧ a.1.cnt.length ≤ 200 ∧ a.1.b + r.length ≤ 200) (fun a => a.1 = wsOf l)
      (fun a => [(Str.ofString "count", .ref a.2), (Str.ofString "b", I (a.1.b : Int)), (Str.ofString "n", I (a.1.n : Int)), (Str.ofString "nt", I (a.1.nt : Int)), (Str.ofString "S", Mine.S (sx [32])), (Str.ofString "T", Mine.S (sx [9])), (Str.ofString "self", .ref x)])
      (fun a => [(a.2, .list (a.1.cnt.map fun c : Nat => I (c : Int))), (x, .inst 83 dx), (dx, .dict [(Str.ofString "raw", Mine.S (sx l))])] ++ ns) (fun a hf => ?fin) (fun a hI => hI.1) (fun a c r hI fin ih => ?cons) l (⟨0, 0, 0, []⟩, ca) ⟨rfl, by simp, by simpa using hl⟩)
  case fin =>
    obtain ⟨w', ca⟩ := a
    have hf' : w' = wsOf l := hf
    subst hf'
    have hsm : (wsOf l).cnt.length ≤ 200 ∧ (wsOf l).b ≤ 200 := wsGo_small l ⟨0, 0, 0, []⟩ 200 (by simp) (by simpa using hl)
    dsimp only [List.cons_append, List.nil_append]
    walk_at "G"
    walk_at "seta"
    walk_at "G"
    walk_at "seta"
    walk_at "G"
    refine ev_tup (by rfl) (by rfl) ?_
    walk_at "G"
    walk_at "call"
    walk_at "B tuple"
    walk_at "G"
    refine cl_tuple (.list (by walk_at "mem")) (by rw [sizeLine_eq, List.length_map]; omega) fun ct => ?_
    walk_at "G"
    refine ⟨of_decide_eq_true rfl, fun t => ?_⟩
    walk_at "G"
    walk_at "seta"
    walk_at "G"
    walk_at "call"
    walk_at "B len"
    walk_at "G"
    refine cl_len (.list (by walk_at "mem")) (by rw [sizeLine_eq, List.length_map]; omega) ?_
    walk_at "G"
    rw [List.length_map, show decide (((wsOf l).cnt.length : Int) ≤ 1) = decide ((wsOf l).cnt.length ≤ 1) from decide_eq_decide.mpr (by omega)]
    walk_at "seta"
    exact ex_st (ls' := []) (ns' := WsB 83 x dx t ct l ++ ns) trivial (by walk_at "pk") (ex_nil ⟨_, .refl _, rfl, h x dx t ct⟩)
  case cons =>
    obtain ⟨w', ca⟩ := a
    obtain ⟨hI, hc1, hc2⟩ := hI
    dsimp only at hI hc1 hc2 ih fin ⊢
    simp only [List.length_cons] at hc2
    rw [wsGo_cons] at hI
    refine fl_cons (by walk_at "env") (by rfl) ?_
    walk_at "G"
    rw [sx_beq]
    by_cases h1 : c = 32
    · subst h1
      rw [if_pos rfl] at hI
      rw [if_pos (by simp)]
      walk_at "G"
      exact fl_st (by walk_at "ls") .refl (ih (⟨w'.n + 1, w'.nt, w'.b + 1, w'.cnt⟩, ca) ⟨hI, hc1, by dsimp only; omega⟩)
    · rw [if_neg h1] at hI
      rw [if_neg (by simpa using h1)]
      walk_at "G"
      rw [sx_beq]
      by_cases h2 : c = 9
      · subst h2
        rw [if_pos rfl] at hI
        rw [if_pos (by simp)]
        walk_at "G"
        walk_at "call"
        walk_at "B len"
        walk_at "G"
        refine cl_len (.list (by walk_at "mem")) (by rw [sizeLine_eq, List.length_map]; omega) ?_
        walk_at "G"
        rw [List.length_map]
        have hr1 := room_len w'.cnt w'.b
        have hr2 := room_lt w'.cnt w'.b
        have hget : ((room w'.cnt w'.b).map fun c : Nat => I (c : Int))[((w'.b : Int)).toNat]? = some (I ((room w'.cnt w'.b).getD w'.b 0 : Nat)) := by
          simp [List.getElem?_map, List.getElem?_eq_getElem hr2, List.getD]
        have hset : ((room w'.cnt w'.b).map fun c : Nat => I (c : Int)).set ((w'.b : Int)).toNat (I (((room w'.cnt w'.b).getD w'.b 0 : Nat) + 1)) = (bump w'.cnt w'.b).map fun c : Nat => I (c : Int) := by
          unfold bump
          rw [List.map_set]
          rfl
        by_cases h3 : w'.cnt.length ≤ w'.b
        · rw [if_pos (by simpa using h3)]
          walk_at "G"
          refine ev_list (by rfl) ?_
          walk_at "G"
          refine ⟨of_decide_eq_true rfl, fun z0 => ?_⟩
          walk_at "G"
          walk_at "call"
          walk_at "B len"
          walk_at "G"
          refine cl_len (.list (by walk_at "mem")) (by rw [sizeLine_eq, List.length_map]; omega) ?_
          walk_at "G"
          refine bin_mul_list (vs := [I 0]) (.list (by walk_at "mem")) (by rw [List.length_map]; omega) (by rw [List.length_map]; omega) (by rw [List.length_map]; simp; omega) fun z1 => ?_
          refine bin_add_list (.list (by walk_at "mem")) (.list (by walk_at "mem")) (by rw [sizeLine_eq, List.length_map, List.length_flatten]; simp; omega) fun ca2 => ?_
          walk_at "G"
          have e1 : (w'.cnt.map fun c : Nat => I (c : Int)) ++ (List.replicate ((w'.b : Int) - (List.map (fun c : Nat => I (c : Int)) w'.cnt).length + 1).toNat [I 0]).flatten = (room w'.cnt w'.b).map fun c : Nat => I (c : Int) := by
            unfold room
            rw [if_pos h3, List.map_append, List.map_replicate, List.length_map]
            congr 1
            have : ((w'.b : Int) - (w'.cnt.length : Int) + 1).toNat = w'.b - w'.cnt.length + 1 := by omega
            rw [this]
            generalize w'.b - w'.cnt.length + 1 = k
            induction k with
            | zero => rfl
            | succ k ih => rw [List.replicate_succ, List.flatten_cons, ih]; rfl
          rw [e1]
          refine sb_list (i := (w'.b : Int)) (vs := (room w'.cnt w'.b).map fun c : Nat => I (c : Int)) (v := I ((room w'.cnt w'.b).getD w'.b 0 : Nat)) (.list (by walk_at "mem")) (by omega) (by rw [sizeLine_eq, List.length_map]; omega) hget ?_ (by intros; rfl)
          walk_at "G"
          refine set_item2 (by walk_at "put") (by omega) (by rw [List.length_map]; omega) (by rw [sizeLine_eq, List.length_map]; omega) ?_
          rw [hset]
          walk_at "G"
          exact fl_st (by walk_at "ls") (by walk_at "pk") (ih (⟨w'.n + 1, w'.nt + 1, 0, bump w'.cnt w'.b⟩, ca2) ⟨hI, by dsimp only; rw [bump_len]; omega, by dsimp only; omega⟩)
        · rw [if_neg (by simpa using h3)]
          have e1 : room w'.cnt w'.b = w'.cnt := by unfold room; rw [if_neg h3]
          walk_at "G"
          rw [show (w'.cnt.map fun c : Nat => I (c : Int)) = (room w'.cnt w'.b).map fun c : Nat => I (c : Int) from by rw [e1]]
          refine sb_list (i := (w'.b : Int)) (vs := (room w'.cnt w'.b).map fun c : Nat => I (c : Int)) (v := I ((room w'.cnt w'.b).getD w'.b 0 : Nat)) (.list (by walk_at "mem")) (by omega) (by rw [sizeLine_eq, List.length_map]; omega) hget ?_ (by intros; rfl)
          walk_at "G"
          refine set_item2 (by walk_at "put") (by omega) (by rw [List.length_map]; omega) (by rw [sizeLine_eq, List.length_map]; omega) ?_
          rw [hset]
          walk_at "G"
          exact fl_st (by walk_at "ls") (by walk_at "pk") (ih (⟨w'.n + 1, w'.nt + 1, 0, bump w'.cnt w'.b⟩, ca) ⟨hI, by dsimp only; rw [bump_len]; omega, by dsimp only; omega⟩)
      · rw [if_neg h2] at hI
        rw [if_neg (by simpa using h2)]
        walk_at "G"
        exact ex_st (by walk_at "ls") (by walk_at "pk") (fin (w', ca) hI)
theorem lrsC {w : World} {n : Nat} {L : Addr} {ls : LS} {ns : NS} {l : List Nat} {x dx t ct : Addr} {Q : Value → NS → Prop} (hw : HasW 83 ns l x dx t ct) (hl : l.length ≤ 200) (h : Q (I (lrs (wsOf l))) ns) : Cd (C2 w) (n + 1) L ls ns (.ref 45) [.ref x] Q := by
  have hsm := wsOf_small hl
  walk_at "def"
  walk_at "G"
  refine at_own hw.i hw.d (by walk_at "kis") (by walk_at "kis") (by walk_at "kis") (by walk_at "kis") (by rfl) (by rfl) ?_
  refine as_tup hw.t (by rfl) (by rfl) ?_
  walk_at "G"
  walk_at "call"
  walk_at "B max"
  walk_at "G"
  walk_at "call"
  walk_at "B len"
  walk_at "G"
  refine cl_lenT hw.c (by rw [sizeLine_eq, List.length_map]; omega) ?_
  rw [List.length_map]
  walk_at "G"
  refine cl_max ?_
  exact ⟨ns, .refl _, h⟩
theorem ilC {w : World} {n : Nat} {L : Addr} {ls : LS} {ns : NS} {l : List Nat} {x dx t ct : Addr} {ts : Nat} {Q : Value → NS → Prop} (hw : HasW 83 ns l x dx t ct) (hl : l.length ≤ 200) (h1 : 0 < ts) (h2 : ts ≤ 300) (h : Q (I (indent (wsOf l) ts : Nat)) ns) : Cd (C2 w) (n + 1) L ls ns (.ref 52) [.ref x, I (ts : Int)] Q := by
  have hsm := wsOf_small hl
  walk_at "def"
  walk_at "G"
  refine at_own hw.i hw.d (by walk_at "kis") (by walk_at "kis") (by walk_at "kis") (by walk_at "kis") (by rfl) (by rfl) ?_
  refine as_tup hw.t (by rfl) (by rfl) ?_
  walk_at "G"
  walk_at "for"
  walk_at "call"
  walk_at "B range"
  walk_at "G"
  walk_at "call"
  walk_at "B len"
  walk_at "G"
  refine cl_lenT hw.c (by rw [sizeLine_eq, List.length_map]; omega) ?_
  rw [List.length_map]
  walk_at "G"
  refine cl_range2 fun r t1 t2 t3 => ?_
  refine itr_range .hd (by omega) (by omega) ?_
  unfold rangeL
  have e0 : (((wsOf l).cnt.length : Int) - (ts : Int)).toNat = (wsOf l).cnt.length - ts := by omega
  rw [e0]
  refine fl_st (ls' := [(Str.ofString "il", I ((0 : Nat) : Int)), (Str.ofString "count", .ref ct), (Str.ofString "trailing", I ((wsOf l).b : Int)), (Str.ofString "tabsize", I (ts : Int)), (Str.ofString "self", .ref x)]) (by walk_at "ls") .refl
    (fl_list (α := Nat) _ (fun a r => ilSum (wsOf l) ts a r = ilSum (wsOf l) ts 0 (List.range ((wsOf l).cnt.length - ts)) ∧ ∀ k ∈ r, ts + k < (wsOf l).cnt.length)
      (fun a => [(Str.ofString "il", I (a : Int)), (Str.ofString "count", .ref ct), (Str.ofString "trailing", I ((wsOf l).b : Int)), (Str.ofString "tabsize", I (ts : Int)), (Str.ofString "self", .ref x)]) (fun _ => ns) (fun a hI => ?nil) (fun a k r hI ih => ?cons) _ 0 ⟨rfl, fun k hk => by rw [List.mem_range] at hk; omega⟩)
  case nil =>
    have hI' : a = ilSum (wsOf l) ts 0 (List.range ((wsOf l).cnt.length - ts)) := hI.1
    walk_at "G"
    refine at_own hw.i hw.d (by walk_at "kis") (by walk_at "kis") (by walk_at "kis") (by walk_at "kis") (by rfl) (by rfl) ?_
    walk_at "G"
    refine bin_mul_int (.of_left (intBits_le_iff.mpr (by omega))) ?_
    walk_at "G"
    refine ⟨ns, .refl _, ?_⟩
    rw [hI']
    exact h
  case cons =>
    have hk := hI.2 k (.head _)
    refine fl_cons (by walk_at "env") (by rfl) ?_
    walk_at "G"
    refine bin_div_int (by omega) (pylong_small (by
      have : ((ts : Int).natAbs).log2 ≤ 300 := by
        rw [Int.natAbs_natCast]; exact Nat.le_trans (Nat.log2_le_self _) h2
      omega)) ?_
    walk_at "G"
    refine sb_tup (i := (ts : Int) + (k : Int)) (v := I ((wsOf l).cnt.getD (ts + k) 0 : Nat)) hw.c (by omega) (by rw [sizeLine_eq, List.length_map]; omega) (by
      have e : ((ts : Int) + (k : Int)).toNat = ts + k := by omega
      rw [e, List.getElem?_map, List.getElem?_eq_getElem hk]
      simp [List.getD, List.getElem?_eq_getElem hk]) ?_ (by intros; rfl)
    have e2 : ((ts : Int) + (k : Int)).fdiv (ts : Int) = (((ts + k) / ts : Nat) : Int) := by
      rw [Int.fdiv_eq_ediv_of_nonneg _ (by omega)]; rfl
    rw [e2]
    refine bin_mul_int (.of_left (intBits_le_iff.mpr (by
      rw [Int.natAbs_natCast]
      exact Nat.lt_of_le_of_lt (Nat.div_le_self _ _) (by omega)))) ?_
    walk_at "G"
    refine fl_st (ls' := [(Str.ofString "il", I ((a + (ts + k) / ts * (wsOf l).cnt.getD (ts + k) 0 : Nat) : Int)), (Str.ofString "count", .ref ct), (Str.ofString "trailing", I ((wsOf l).b : Int)), (Str.ofString "tabsize", I (ts : Int)), (Str.ofString "self", .ref x)]) (by walk_at "ls") .refl (ih _ ⟨hI.1, fun k' h' => hI.2 k' (.tail _ h')⟩)
theorem lessC {w : World} {n : Nat} {L : Addr} {ls : LS} {ns : NS} {l l2 : List Nat} {x dx t ct x2 dx2 t2 ct2 : Addr} {Q : Value → NS → Prop} (hw : HasW 83 ns l x dx t ct) (hv : HasW 83 ns l2 x2 dx2 t2 ct2) (hl : l.length ≤ 200) (hl2 : l2.length ≤ 200) (h : Q (.bool (lessW (wsOf l) (wsOf l2))) ns) : Cd (C2 w) (n + 2) L ls ns (.ref 73) [.ref x, .ref x2] Q := by
  have hsm := wsOf_small hl
  have hsm2 := wsOf_small hl2
  walk_at "def"
  walk_at "G"
  refine at_own hw.i hw.d (by walk_at "kis") (by walk_at "kis") (by walk_at "kis") (by walk_at "kis") (by rfl) (by rfl) ?_
  walk_at "G"
  refine at_own hv.i hv.d (by walk_at "kis") (by walk_at "kis") (by walk_at "kis") (by walk_at "kis") (by rfl) (by rfl) ?_
  walk_at "G"
  by_cases h1 : (wsOf l2).n ≤ (wsOf l).n
  · rw [if_pos (by simpa using h1)]
    walk_at "G"
    refine ⟨ns, .refl _, ?_⟩
    unfold lessW at h
    rw [if_pos h1] at h
    exact h
  rw [if_neg (by simpa using h1)]
  unfold lessW at h
  rw [if_neg h1] at h
  walk_at "G"
  refine tt_val ?_
  walk_at "G"
  refine at_own hw.i hw.d (by walk_at "kis") (by walk_at "kis") (by walk_at "kis") (by walk_at "kis") (by rfl) (by rfl) ?_
  walk_at "G"
  by_cases h2 : (wsOf l).cnt.length ≤ 1
  · rw [if_pos (by simpa using h2)]
    refine tt_val ?_
    walk_at "G"
    refine at_own hv.i hv.d (by walk_at "kis") (by walk_at "kis") (by walk_at "kis") (by walk_at "kis") (by rfl) (by rfl) ?_
    walk_at "G"
    by_cases h3 : (wsOf l2).cnt.length ≤ 1
    · rw [if_pos (by simpa using h3)]
      walk_at "G"
      refine at_own hw.i hw.d (by walk_at "kis") (by walk_at "kis") (by walk_at "kis") (by walk_at "kis") (by rfl) (by rfl) ?_
      walk_at "G"
      refine at_own hv.i hv.d (by walk_at "kis") (by walk_at "kis") (by walk_at "kis") (by walk_at "kis") (by rfl) (by rfl) ?_
      walk_at "G"
      refine ⟨ns, .refl _, ?_⟩
      rw [if_pos ⟨h2, h3⟩] at h
      show Q (.bool (decide (((wsOf l).nt : Int) ≤ ((wsOf l2).nt : Int)))) ns
      rw [show decide (((wsOf l).nt : Int) ≤ ((wsOf l2).nt : Int)) = decide ((wsOf l).nt ≤ (wsOf l2).nt) from decide_eq_decide.mpr (by omega)]
      exact h
    · rw [if_neg (by simpa using h3)]
      rw [if_neg (fun q => h3 q.2)] at h
      walk_at "G"
      walk_at "call"
      walk_at "B max"
      walk_at "G"
      walk_at "call"
      walk_at "G"
      refine gm_inst hw.i hw.d (by walk_at "kis") (by walk_at "kis") (by walk_at "kis") (by rfl) ?_
      walk_at "cwK"
      walk_at "G"
      refine (lrsC hw hl ?_).cl
      walk_at "G"
      walk_at "call"
      walk_at "G"
      refine gm_inst hv.i hv.d (by walk_at "kis") (by walk_at "kis") (by walk_at "kis") (by rfl) ?_
      walk_at "cwK"
      walk_at "G"
      refine (lrsC hv hl2 ?_).cl
      walk_at "G"
      refine cl_max ?_
      walk_at "G"
      walk_at "for"
      walk_at "call"
      walk_at "B range"
      walk_at "G"
      refine cl_range2 fun r t1 t2 t3 => ?_
      have hb1 : -1 ≤ lrs (wsOf l) ∧ lrs (wsOf l) ≤ 200 := by unfold lrs; omega
      have hb2 : -1 ≤ lrs (wsOf l2) ∧ lrs (wsOf l2) ≤ 200 := by unfold lrs; omega
      refine itr_range .hd (by omega) (by omega) ?_
      unfold rangeL
      have e0 : (max (lrs (wsOf l)) (lrs (wsOf l2)) + 1 + 1 - 2).toNat = (max (lrs (wsOf l)) (lrs (wsOf l2))).toNat := by omega
      rw [e0]
      refine fl_st (ls' := [(Str.ofString "other", .ref x2), (Str.ofString "self", .ref x)]) (by walk_at "ls") .refl
        (fl_list (α := Unit) _ (fun _ r => r.all (fun k => decide (indent (wsOf l) (2 + k) < indent (wsOf l2) (2 + k))) = (List.range (max (lrs (wsOf l)) (lrs (wsOf l2))).toNat).all (fun k => decide (indent (wsOf l) (2 + k) < indent (wsOf l2) (2 + k))) ∧ ∀ k ∈ r, k < 250)
          (fun _ => [(Str.ofString "other", .ref x2), (Str.ofString "self", .ref x)]) (fun _ => ns) (fun a hI => ?nil) (fun a k r hI ih => ?cons) _ () ⟨rfl, fun k hk => by rw [List.mem_range] at hk; omega⟩)
      case nil =>
        rw [← hI.1] at h
        walk_at "G"
        exact ⟨ns, .refl _, h⟩
      case cons =>
        have hk := hI.2 k (.head _)
        have hI1 := hI.1
        rw [List.all_cons] at hI1
        refine fl_cons (by walk_at "env") (by rfl) ?_
        rw [show (2 : Int) + (k : Int) = ((2 + k : Nat) : Int) from by omega]
        walk_at "G"
        walk_at "call"
        walk_at "G"
        refine gm_inst hw.i hw.d (by walk_at "kis") (by walk_at "kis") (by walk_at "kis") (by rfl) ?_
        walk_at "cwK"
        walk_at "G"
        refine (ilC (ts := 2 + k) hw hl (by omega) (by omega) ?_).cl
        walk_at "call"
        walk_at "G"
        refine gm_inst hv.i hv.d (by walk_at "kis") (by walk_at "kis") (by walk_at "kis") (by rfl) ?_
        walk_at "cwK"
        walk_at "G"
        refine (ilC (ts := 2 + k) hv hl2 (by omega) (by omega) ?_).cl
        walk_at "G"
        by_cases hlt : indent (wsOf l) (2 + k) < indent (wsOf l2) (2 + k)
        · rw [decide_eq_true hlt, Bool.true_and] at hI1
          rw [if_neg (by simpa using hlt)]
          walk_at "G"
          exact fl_st (by walk_at "ls") .refl (ih () ⟨hI1, fun k' h' => hI.2 k' (.tail _ h')⟩)
        · rw [decide_eq_false hlt, Bool.false_and] at hI1
          rw [← hI1] at h
          rw [if_pos (by simpa using Nat.le_of_not_lt hlt)]
          walk_at "G"
          exact ⟨ns, .refl _, h⟩
  · rw [if_neg (by simpa using h2)]
    rw [if_neg (fun q => h2 q.1)] at h
    rw [if_neg Bool.false_ne_true]
    walk_at "G"
    walk_at "call"
    walk_at "B max"
    walk_at "G"
    walk_at "call"
    walk_at "G"
    refine gm_inst hw.i hw.d (by walk_at "kis") (by walk_at "kis") (by walk_at "kis") (by rfl) ?_
    walk_at "cwK"
    walk_at "G"
    refine (lrsC hw hl ?_).cl
    walk_at "G"
    walk_at "call"
    walk_at "G"
    refine gm_inst hv.i hv.d (by walk_at "kis") (by walk_at "kis") (by walk_at "kis") (by rfl) ?_
    walk_at "cwK"
    walk_at "G"
    refine (lrsC hv hl2 ?_).cl
    walk_at "G"
    refine cl_max ?_
    walk_at "G"
    walk_at "for"
    walk_at "call"
    walk_at "B range"
    walk_at "G"
    refine cl_range2 fun r t1 t2 t3 => ?_
    have hb1 : -1 ≤ lrs (wsOf l) ∧ lrs (wsOf l) ≤ 200 := by unfold lrs; omega
    have hb2 : -1 ≤ lrs (wsOf l2) ∧ lrs (wsOf l2) ≤ 200 := by unfold lrs; omega
    refine itr_range .hd (by omega) (by omega) ?_
    unfold rangeL
    have e0 : (max (lrs (wsOf l)) (lrs (wsOf l2)) + 1 + 1 - 2).toNat = (max (lrs (wsOf l)) (lrs (wsOf l2))).toNat := by omega
    rw [e0]
    refine fl_st (ls' := [(Str.ofString "other", .ref x2), (Str.ofString "self", .ref x)]) (by walk_at "ls") .refl
      (fl_list (α := Unit) _ (fun _ r => r.all (fun k => decide (indent (wsOf l) (2 + k) < indent (wsOf l2) (2 + k))) = (List.range (max (lrs (wsOf l)) (lrs (wsOf l2))).toNat).all (fun k => decide (indent (wsOf l) (2 + k) < indent (wsOf l2) (2 + k))) ∧ ∀ k ∈ r, k < 250)
        (fun _ => [(Str.ofString "other", .ref x2), (Str.ofString "self", .ref x)]) (fun _ => ns) (fun a hI => ?nil) (fun a k r hI ih => ?cons) _ () ⟨rfl, fun k hk => by rw [List.mem_range] at hk; omega⟩)
    case nil =>
      rw [← hI.1] at h
      walk_at "G"
      exact ⟨ns, .refl _, h⟩
    case cons =>
      have hk := hI.2 k (.head _)
      have hI1 := hI.1
      rw [List.all_cons] at hI1
      refine fl_cons (by walk_at "env") (by rfl) ?_
      rw [show (2 : Int) + (k : Int) = ((2 + k : Nat) : Int) from by omega]
      walk_at "G"
      walk_at "call"
      walk_at "G"
      refine gm_inst hw.i hw.d (by walk_at "kis") (by walk_at "kis") (by walk_at "kis") (by rfl) ?_
      walk_at "cwK"
      walk_at "G"
      refine (ilC (ts := 2 + k) hw hl (by omega) (by omega) ?_).cl
      walk_at "call"
      walk_at "G"
      refine gm_inst hv.i hv.d (by walk_at "kis") (by walk_at "kis") (by walk_at "kis") (by rfl) ?_
      walk_at "cwK"
      walk_at "G"
      refine (ilC (ts := 2 + k) hv hl2 (by omega) (by omega) ?_).cl
      walk_at "G"
      by_cases hlt : indent (wsOf l) (2 + k) < indent (wsOf l2) (2 + k)
      · rw [decide_eq_true hlt, Bool.true_and] at hI1
        rw [if_neg (by simpa using hlt)]
        walk_at "G"
        exact fl_st (by walk_at "ls") .refl (ih () ⟨hI1, fun k' h' => hI.2 k' (.tail _ h')⟩)
      · rw [decide_eq_false hlt, Bool.false_and] at hI1
        rw [← hI1] at h
        rw [if_pos (by simpa using Nat.le_of_not_lt hlt)]
        walk_at "G"
        exact ⟨ns, .refl _, h⟩
theorem readC {w : World} {n : Nat} {L : Addr} {ls : LS} {ns : NS} {a : LX} {K : Int} {q : List Value} {c : Nat} {cs : List Nat} {Q : Value → NS → Prop} (ha : RdOk (C2 w) a) (hcs : cs.length ≤ 10000) (h : Q (Mine.S (sx [c])) (LxB 132 a K q cs ns)) : Cd (C2 w) (n + 2) L ls (LxB 132 a K q (c :: cs) ns) (.ref 115) [.ref a.x] Q := by
  obtain ⟨oc, od, fd, sl, hof⟩ := ha.fn
  rw [show LxB 132 a K q (c :: cs) ns = (a.dx, .dict (LxF (K - (nl (c :: cs) : Int)) a.st a.pb)) :: (a.pb, .list q) :: (a.sg, .list (sigV cs ++ [Mine.S (sx [c])])) :: (LxS 132 a ++ ns) from by rw [← sigV_cons]; rfl]
  walk_at "def"
  walk_at "G"
  walk_at "call"
  walk_at "G"
  walk_at "own"
  refine gm_own (by walk_at "mem") (by walk_at "mem") (by walk_at "kis") (by walk_at "kis") (by walk_at "kis") (by walk_at "kis") (by rfl) (by rfl) (by rfl) ?_
  refine cw_fn (oc := oc) (od := od) (fd := fd) (sl := sl) (by rfl) ?_
  walk_at "G"
  refine ⟨by rw [← hof]; walk_at "mem", ?_⟩
  refine (ha.item n _ _ _ _ (sigV cs) (Mine.S (sx [c])) _ (by simpa [sigV] using hcs) (by walk_at "mem") (by walk_at "mem") (by walk_at "mem") (by walk_at "put") ?_).cl
  walk_at "G"
  rw [show Str.ofString "\n" = sx [10] from rfl]
  rw [sx_beq]
  by_cases h1 : c = 10
  · rw [if_pos (by simp [h1])]
    walk_at "G"
    refine x_augAttr ?_
    walk_at "G"
    walk_at "own"
    walk_at "G"
    rw [show K - (nl (c :: cs) : Int) + 1 = K - (nl cs : Int) from by rw [h1]; simp [nl]; omega]
    walk_at "seta"
    walk_at "G"
    exact ⟨LxB 132 a K q cs ns, .refl _, h⟩
  · rw [if_neg (by simpa using h1)]
    walk_at "G"
    refine ⟨LxB 132 a K q cs ns, ?_, h⟩
    rw [show K - (nl (c :: cs) : Int) = K - (nl cs : Int) from by simp [nl, h1]]
    exact .refl _
theorem readE {w : World} {n : Nat} {L : Addr} {ls : LS} {ns : NS} {a : LX} {K : Int} {q : List Value} {Q : Value → NS → Prop} (ha : RdOk (C2 w) a) (h : Q (Mine.S (sx [])) (LxB 132 a K q [] ns)) : Cd (C2 w) (n + 2) L ls (LxB 132 a K q [] ns) (.ref 115) [.ref a.x] Q := by
  obtain ⟨oc, od, fd, sl, hof⟩ := ha.fn
  walk_at "def"
  walk_at "G"
  walk_at "call"
  walk_at "G"
  walk_at "own"
  refine gm_own (by walk_at "mem") (by walk_at "mem") (by walk_at "kis") (by walk_at "kis") (by walk_at "kis") (by walk_at "kis") (by rfl) (by rfl) (by rfl) ?_
  refine cw_fn (oc := oc) (od := od) (fd := fd) (sl := sl) (by rfl) ?_
  walk_at "G"
  refine ⟨by rw [← hof]; walk_at "mem", ?_⟩
  refine (ha.done n _ _ _ _ (by walk_at "mem") (by walk_at "mem") (by walk_at "mem") (by walk_at "mem") ?_).cl
  walk_at "G"
  rw [show Str.ofString "\n" = sx [10] from rfl]
  rw [sx_beq, if_neg (by decide)]
  walk_at "G"
  exact ⟨LxB 132 a K q [] ns, .refl _, h⟩
/-- a row is put behind -/
theorem pushC {w : World} {n : Nat} {L : Addr} {ls : LS} {ns : NS} {a : LX} {K : Int} {q : List Value} {cs : List Nat} {v : Value} {Q : Value → NS → Prop} (hq : q.length ≤ 10000) (h : Q .none (LxB 132 a K (q ++ [v]) cs ns)) : Cd (C2 w) (n + 1) L ls (LxB 132 a K q cs ns) (.ref 129) [.ref a.x, v] Q := by
  walk_at "def"
  walk_at "G"
  walk_at "call"
  walk_at "G"
  walk_at "own"
  refine gm_list (by walk_at "mem") slot_list_append PySem.F.type_list_append ?_
  walk_at "G"
  refine cl_append (by walk_at "put") (by rw [sizeLine_eq]; omega) ?_
  walk_at "G"
  exact ⟨LxB 132 a K (q ++ [v]) cs ns, .refl _, h⟩
theorem gettP {w : World} {n : Nat} {L : Addr} {ls : LS} {ns : NS} {a : LX} {K : Int} {q : List Value} {cs : List Nat} {v : Value} {Q : Value → NS → Prop} (hq : q.length ≤ 10000) (h : Q v (LxB 132 a K q cs ns)) : Cd (C2 w) (n + 1) L ls (LxB 132 a K (v :: q) cs ns) (.ref 122) [.ref a.x] Q := by
  walk_at "def"
  walk_at "G"
  refine tt_val ?_
  walk_at "G"
  walk_at "own"
  refine tr_list (vs := v :: q) (.list (by walk_at "mem")) (by rw [sizeLine_eq, List.length_cons]; omega) ?_
  rw [if_pos (by rfl)]
  walk_at "G"
  walk_at "call"
  walk_at "G"
  walk_at "own"
  refine gm_list (by walk_at "mem") PySem.F.slot_list_pop PySem.F.type_list_pop ?_
  walk_at "G"
  refine cl_pop0 (by walk_at "put") (by rw [sizeLine_eq]; omega) ?_
  exact ⟨LxB 132 a K q cs ns, .refl _, h⟩
theorem gettT {w : World} {n : Nat} {L : Addr} {ls : LS} {ns : NS} {a : LX} {K : Int} {cs t rest : List Nat} {Q : Value → NS → Prop} (ha : RdOk (C2 w) a) (hcs : cs.length ≤ 5000) (ht : tokL cs = some (t, rest)) (h : Q (Mine.S (sx t)) (LxB 132 a K [] rest ns)) : Cd (C2 w) (n + 4) L ls (LxB 132 a K [] cs ns) (.ref 122) [.ref a.x] Q := by
  walk_at "def"
  walk_at "G"
  refine tt_val ?_
  walk_at "G"
  walk_at "own"
  refine tr_list (vs := []) (.list (by walk_at "mem")) (by rw [sizeLine_eq]; decide) ?_
  rw [if_neg (by decide)]
  walk_at "G"
  walk_at "call"
  walk_at "B iter"
  walk_at "G"
  refine at_bound (f := 115) (by walk_at "mem") (by walk_at "mem") (by walk_at "kis") (by walk_at "kis") (by walk_at "kis") (by walk_at "kis") (by walk_at "kis") (by walk_at "kis") (by rfl) (by rfl) fun qm => ?_
  walk_at "G"
  refine cl_iter2 (by walk_at "mem") fun it t1 => ?_
  walk_at "G"
  refine x_forG ?_ (by intro _; rfl)
  walk_at "G"
  refine pi_ci (by walk_at "mem") ⟨it, rfl, ?_⟩
  let LO : List Nat → LS := fun b => [(Str.ofString "token", Mine.S (sx b)), (Str.ofString "fiter", .ref it), (Str.ofString "self", .ref a.x)]
  let RR : List Nat → NS := fun u => LxB 132 a K [] u ((it, PO.raw (ciObj (.ref qm) t1)) :: (qm, PO.raw (methodObj (.ref 115) (.ref a.x))) :: ns)
  refine fg_st (ls' := LO []) (ns' := RR cs) (by walk_at "ls") (by walk_at "pk") (fg_ind (fun u : List Nat => tokL u = some (t, rest) ∧ u.length ≤ 5000) List.length (fun _ => LO []) RR (fun u hI ih => ?_) cs ⟨ht, hcs⟩)
  obtain ⟨ht, hcs⟩ := hI
  cases u with
  | nil =>
    cases ht
    refine fg_step (nx_ci (t := t1) (by walk_at "mem") (by walk_at "mem") (by walk_at "kis") (by rfl) (readE ha ⟨sx [], _, rfl, (by walk_at "sel"), (by walk_at "mem"), ?_⟩)) (by intro _; rfl)
    rw [if_pos rfl]
    walk_at "G"
    exact ⟨LxB 132 a K [] [] ns, by walk_at "sub", h⟩
  | cons c r =>
    simp only [List.length_cons] at hcs
    refine fg_step (nx_ci (t := t1) (by walk_at "mem") (by walk_at "mem") (by walk_at "kis") (by rfl) (readC ha (by omega) ⟨sx [c], _, rfl, (by walk_at "sel"), (by walk_at "mem"), ?_⟩)) (by intro _; rfl)
    rw [if_neg (by simp)]
    walk_at "G"
    walk_at "own"
    walk_at "G"
    (try rw [show Str.ofString "\n\t\r " = sx [10, 9, 13, 32] from rfl])
    rw [in_one]
    by_cases hw : isW c
    · rw [tokL_cons, if_pos hw] at ht
      rw [if_pos (by simpa [isW] using hw)]
      walk_at "G"
      exact fg_st (by walk_at "ls") (by walk_at "pk") (ih r (by simp) ⟨ht, by omega⟩)
    · rw [tokL_cons, if_neg hw] at ht
      rw [if_neg (by simpa [isW] using hw)]
      walk_at "G"
      (try rw [show Str.ofString "\"" = sx [34] from rfl])
      rw [sx_beq]
      by_cases hq : c = 34
      · rw [if_pos hq] at ht
        rw [if_pos (by simp [hq])]
        walk_at "G"
        refine x_forG ?_ (by intro _; rfl)
        walk_at "G"
        refine pi_ci (by walk_at "mem") ⟨it, rfl, ?_⟩
        clear ih
        refine fg_st (ls' := LO []) (ns' := RR r) (by walk_at "ls") (by walk_at "pk") (fg_ind (fun b : List Nat × List Nat => quoted b.1 b.2 = some (t, rest) ∧ b.1.length + b.2.length ≤ 10000) (fun b => b.2.length) (fun b => LO b.1) (fun b => RR b.2) (fun b hI ih => ?_) ([], r) ⟨ht, by simp; omega⟩)
        obtain ⟨acc, u⟩ := b
        obtain ⟨h1, h2⟩ := hI
        dsimp only at h1 h2 ih ⊢
        clear ht
        cases u with
        | nil => simp [quoted] at h1
        | cons c r =>
          simp only [List.length_cons] at h2
          have e1 : quoted acc (c :: r) = if c = 34 then some (acc, r) else if c = 92 then (match r with | [] => none | d :: r' => quoted (acc ++ [d]) r') else if r = [] then none else quoted (acc ++ [c]) r := by cases r <;> simp [quoted] <;> split <;> simp_all
          rw [e1] at h1
          refine fg_step (nx_ci (t := t1) (by walk_at "mem") (by walk_at "mem") (by walk_at "kis") (by rfl) (readC ha (by omega) ⟨sx [c], _, rfl, (by walk_at "sel"), (by walk_at "mem"), ?_⟩)) (by intro _; rfl)
          rw [if_neg (by simp)]
          walk_at "G"
          (try rw [show Str.ofString "\"" = sx [34] from rfl])
          rw [sx_beq]
          by_cases hc : c = 34
          · rw [if_pos hc] at h1
            have e2 : acc = t ∧ r = rest := by simpa using h1
            rw [← e2.1, ← e2.2] at h
            rw [if_pos (by simpa [isW] using hc)]
            walk_at "G"
            exact ⟨LxB 132 a K [] r ns, by walk_at "sub", h⟩
          · rw [if_neg hc] at h1
            rw [if_neg (by simpa [isW] using hc)]
            walk_at "G"
            (try rw [show Str.ofString "\\" = sx [92] from rfl])
            rw [sx_beq]
            by_cases hb : c = 92
            · rw [if_pos hb] at h1
              rw [if_pos (by simp [hb])]
              cases r with
              | nil => cases h1
              | cons d r =>
                simp only [List.length_cons] at h2
                walk_at "G"
                walk_at "call"
                walk_at "G"
                refine gm_inst (f := 115) (by walk_at "mem") (by walk_at "mem") (by walk_at "kis") (by walk_at "kis") (by walk_at "kis") (by rfl) ?_
                walk_at "cwK"
                walk_at "G"
                refine ((readC (n := n + 1) (ns := (it, PO.raw (ciObj (.ref qm) t1)) :: (qm, PO.raw (methodObj (.ref 115) (.ref a.x))) :: ns) ha (by omega) ?_)).cl
                walk_at "G"
                refine x_aug (by walk_at "env") (by rfl) (by rfl) ?_
                walk_at "G"
                refine ip_add_str (by rw [sx_len, sx_len, sizeLine_eq]; simp <;> omega) ?_
                rw [sx_app]
                walk_at "G"
                exact fg_st (by walk_at "ls") (by walk_at "pk") (ih (acc ++ [d], r) (by simp only [List.length_cons]; omega) ⟨h1, by simp; omega⟩)
            · rw [if_neg hb] at h1
              rw [if_neg (by simpa using hb)]
              walk_at "G"
              refine x_aug (by walk_at "env") (by rfl) (by rfl) ?_
              walk_at "G"
              refine ip_add_str (by rw [sx_len, sx_len, sizeLine_eq]; simp <;> omega) ?_
              rw [sx_app]
              walk_at "G"
              exact fg_st (by walk_at "ls") (by walk_at "pk") (ih (acc ++ [c], r) (by simp only [List.length_cons]; omega) ⟨by split at h1 <;> simp_all, by simp; omega⟩)
      · rw [if_neg hq] at ht
        rw [if_neg (by simpa using hq)]
        walk_at "G"
        (try rw [show Str.ofString "\\" = sx [92] from rfl])
        rw [sx_beq]
        by_cases hb : c = 92
        · rw [if_pos hb] at ht
          rw [if_pos (by simp [hb])]
          cases r with
          | nil => cases ht
          | cons d r =>
            simp only [List.length_cons] at hcs
            walk_at "G"
            walk_at "call"
            walk_at "G"
            refine gm_inst (f := 115) (by walk_at "mem") (by walk_at "mem") (by walk_at "kis") (by walk_at "kis") (by walk_at "kis") (by rfl) ?_
            walk_at "cwK"
            walk_at "G"
            refine ((readC (n := n + 1) (ns := (it, PO.raw (ciObj (.ref qm) t1)) :: (qm, PO.raw (methodObj (.ref 115) (.ref a.x))) :: ns) ha (by omega) ?_)).cl
            walk_at "G"
            refine x_aug (by walk_at "env") (by rfl) (by rfl) ?_
            walk_at "G"
            refine ip_add_str (by rw [sx_len, sx_len, sizeLine_eq]; simp <;> omega) ?_
            rw [sx_app]
            walk_at "G"
            refine x_forG ?_ (by intro _; rfl)
            walk_at "G"
            refine pi_ci (by walk_at "mem") ⟨it, rfl, ?_⟩
            clear ih
            refine fg_st (ls' := LO [d]) (ns' := RR r) (by walk_at "ls") (by walk_at "pk") (fg_ind (fun b : List Nat × List Nat => bare b.1 b.2 = some (t, rest) ∧ b.1.length + b.2.length ≤ 10000) (fun b => b.2.length) (fun b => LO b.1) (fun b => RR b.2) (fun b hI ih => ?_) ([d], r) ⟨ht, by simp; omega⟩)
            obtain ⟨acc, u⟩ := b
            obtain ⟨h1, h2⟩ := hI
            dsimp only at h1 h2 ih ⊢
            clear ht
            cases u with
            | nil => simp [bare] at h1
            | cons c r =>
              simp only [List.length_cons] at h2
              have e1 : bare acc (c :: r) = if isW c then some (acc, r) else if c = 92 then (match r with | [] => none | d :: r' => bare (acc ++ [d]) r') else if r = [] then none else bare (acc ++ [c]) r := by cases r <;> simp [bare] <;> split <;> simp_all
              rw [e1] at h1
              refine fg_step (nx_ci (t := t1) (by walk_at "mem") (by walk_at "mem") (by walk_at "kis") (by rfl) (readC ha (by omega) ⟨sx [c], _, rfl, (by walk_at "sel"), (by walk_at "mem"), ?_⟩)) (by intro _; rfl)
              rw [if_neg (by simp)]
              walk_at "G"
              walk_at "own"
              walk_at "G"
              (try rw [show Str.ofString "\n\t\r " = sx [10, 9, 13, 32] from rfl])
              rw [in_one]
              by_cases hc : isW c
              · rw [if_pos hc] at h1
                have e2 : acc = t ∧ r = rest := by simpa using h1
                rw [← e2.1, ← e2.2] at h
                rw [if_pos (by simpa [isW] using hc)]
                walk_at "G"
                exact ⟨LxB 132 a K [] r ns, by walk_at "sub", h⟩
              · rw [if_neg hc] at h1
                rw [if_neg (by simpa [isW] using hc)]
                walk_at "G"
                (try rw [show Str.ofString "\\" = sx [92] from rfl])
                rw [sx_beq]
                by_cases hb : c = 92
                · rw [if_pos hb] at h1
                  rw [if_pos (by simp [hb])]
                  cases r with
                  | nil => cases h1
                  | cons d r =>
                    simp only [List.length_cons] at h2
                    walk_at "G"
                    walk_at "call"
                    walk_at "G"
                    refine gm_inst (f := 115) (by walk_at "mem") (by walk_at "mem") (by walk_at "kis") (by walk_at "kis") (by walk_at "kis") (by rfl) ?_
                    walk_at "cwK"
                    walk_at "G"
                    refine ((readC (n := n + 1) (ns := (it, PO.raw (ciObj (.ref qm) t1)) :: (qm, PO.raw (methodObj (.ref 115) (.ref a.x))) :: ns) ha (by omega) ?_)).cl
                    walk_at "G"
                    refine x_aug (by walk_at "env") (by rfl) (by rfl) ?_
                    walk_at "G"
                    refine ip_add_str (by rw [sx_len, sx_len, sizeLine_eq]; simp <;> omega) ?_
                    rw [sx_app]
                    walk_at "G"
                    exact fg_st (by walk_at "ls") (by walk_at "pk") (ih (acc ++ [d], r) (by simp only [List.length_cons]; omega) ⟨h1, by simp; omega⟩)
                · rw [if_neg hb] at h1
                  rw [if_neg (by simpa using hb)]
                  walk_at "G"
                  refine x_aug (by walk_at "env") (by rfl) (by rfl) ?_
                  walk_at "G"
                  refine ip_add_str (by rw [sx_len, sx_len, sizeLine_eq]; simp <;> omega) ?_
                  rw [sx_app]
                  walk_at "G"
                  exact fg_st (by walk_at "ls") (by walk_at "pk") (ih (acc ++ [c], r) (by simp only [List.length_cons]; omega) ⟨by split at h1 <;> simp_all, by simp; omega⟩)
        · rw [if_neg hb] at ht
          rw [if_neg (by simpa using hb)]
          walk_at "G"
          refine x_aug (by walk_at "env") (by rfl) (by rfl) ?_
          walk_at "G"
          refine ip_add_str (by rw [sx_len, sx_len, sizeLine_eq]; simp <;> omega) ?_
          rw [sx_app]
          walk_at "G"
          refine x_forG ?_ (by intro _; rfl)
          walk_at "G"
          refine pi_ci (by walk_at "mem") ⟨it, rfl, ?_⟩
          clear ih
          refine fg_st (ls' := LO [c]) (ns' := RR r) (by walk_at "ls") (by walk_at "pk") (fg_ind (fun b : List Nat × List Nat => bare b.1 b.2 = some (t, rest) ∧ b.1.length + b.2.length ≤ 10000) (fun b => b.2.length) (fun b => LO b.1) (fun b => RR b.2) (fun b hI ih => ?_) ([c], r) ⟨ht, by simp; omega⟩)
          obtain ⟨acc, u⟩ := b
          obtain ⟨h1, h2⟩ := hI
          dsimp only at h1 h2 ih ⊢
          clear ht
          cases u with
          | nil => simp [bare] at h1
          | cons c r =>
            simp only [List.length_cons] at h2
            have e1 : bare acc (c :: r) = if isW c then some (acc, r) else if c = 92 then (match r with | [] => none | d :: r' => bare (acc ++ [d]) r') else if r = [] then none else bare (acc ++ [c]) r := by cases r <;> simp [bare] <;> split <;> simp_all
            rw [e1] at h1
            refine fg_step (nx_ci (t := t1) (by walk_at "mem") (by walk_at "mem") (by walk_at "kis") (by rfl) (readC ha (by omega) ⟨sx [c], _, rfl, (by walk_at "sel"), (by walk_at "mem"), ?_⟩)) (by intro _; rfl)
            rw [if_neg (by simp)]
            walk_at "G"
            walk_at "own"
            walk_at "G"
            (try rw [show Str.ofString "\n\t\r " = sx [10, 9, 13, 32] from rfl])
            rw [in_one]
            by_cases hc : isW c
            · rw [if_pos hc] at h1
              have e2 : acc = t ∧ r = rest := by simpa using h1
              rw [← e2.1, ← e2.2] at h
              rw [if_pos (by simpa [isW] using hc)]
              walk_at "G"
              exact ⟨LxB 132 a K [] r ns, by walk_at "sub", h⟩
            · rw [if_neg hc] at h1
              rw [if_neg (by simpa [isW] using hc)]
              walk_at "G"
              (try rw [show Str.ofString "\\" = sx [92] from rfl])
              rw [sx_beq]
              by_cases hb : c = 92
              · rw [if_pos hb] at h1
                rw [if_pos (by simp [hb])]
                cases r with
                | nil => cases h1
                | cons d r =>
                  simp only [List.length_cons] at h2
                  walk_at "G"
                  walk_at "call"
                  walk_at "G"
                  refine gm_inst (f := 115) (by walk_at "mem") (by walk_at "mem") (by walk_at "kis") (by walk_at "kis") (by walk_at "kis") (by rfl) ?_
                  walk_at "cwK"
                  walk_at "G"
                  refine ((readC (n := n + 1) (ns := (it, PO.raw (ciObj (.ref qm) t1)) :: (qm, PO.raw (methodObj (.ref 115) (.ref a.x))) :: ns) ha (by omega) ?_)).cl
                  walk_at "G"
                  refine x_aug (by walk_at "env") (by rfl) (by rfl) ?_
                  walk_at "G"
                  refine ip_add_str (by rw [sx_len, sx_len, sizeLine_eq]; simp <;> omega) ?_
                  rw [sx_app]
                  walk_at "G"
                  exact fg_st (by walk_at "ls") (by walk_at "pk") (ih (acc ++ [d], r) (by simp only [List.length_cons]; omega) ⟨h1, by simp; omega⟩)
              · rw [if_neg hb] at h1
                rw [if_neg (by simpa using hb)]
                walk_at "G"
                refine x_aug (by walk_at "env") (by rfl) (by rfl) ?_
                walk_at "G"
                refine ip_add_str (by rw [sx_len, sx_len, sizeLine_eq]; simp <;> omega) ?_
                rw [sx_app]
                walk_at "G"
                exact fg_st (by walk_at "ls") (by walk_at "pk") (ih (acc ++ [c], r) (by simp only [List.length_cons]; omega) ⟨by split at h1 <;> simp_all, by simp; omega⟩)
theorem netrcNew {w : World} {n : Nat} {L : Addr} {ls : LS} {ns : NS} {v : Value} {Q : Value → NS → Prop} (h : ∀ x dx pb, Q (.ref x) ((x, .inst 132 dx) :: (dx, .dict [(Str.ofString "lineno", I 1), (Str.ofString "instream", v), (Str.ofString "whitespace", wsS), (Str.ofString "pushback", .ref pb)]) :: (pb, .list []) :: ns)) : Cd (C2 w) (n + 2) L ls ns (.ref 132) [v] Q := by
  refine cd_new (by walk_at "kis") (by walk_at "kis") (by walk_at "kis") fun x dx => ?_
  walk_at "def"
  walk_at "G"
  walk_at "seta"
  walk_at "G"
  walk_at "seta"
  walk_at "G"
  walk_at "seta"
  walk_at "G"
  refine ev_list (by rfl) ?_
  walk_at "G"
  refine ⟨of_decide_eq_true rfl, fun pb => ?_⟩
  walk_at "G"
  walk_at "seta"
  exact ex_st (ls' := []) (ns' := (x, .inst 132 dx) :: (dx, .dict [(Str.ofString "lineno", I 1), (Str.ofString "instream", v), (Str.ofString "whitespace", wsS), (Str.ofString "pushback", .ref pb)]) :: (pb, .list []) :: ns) trivial (by walk_at "pk") (ex_nil ⟨_, .refl _, rfl, h x dx pb⟩)
theorem lexHd {w : World} : codeHdIn (C2 w).K 199 195 = true := by
  kernel_rfl
theorem lexC {w : World} {n : Nat} {L : Addr} {ls : LS} {ns : NS} {cs : List Nat} {ps : Array Value} {Q : Value → NS → Prop} (hcs : cs.length ≤ 5000) (ht : TriplesOk ps.toList) (hnf : ∀ pos : Pos, codeAmong pos ps.toList = none)
    (h : ∀ a ps', RdOk (C2 w) a → Q (.ref a.x) (LxB 132 a (1 + (nl cs : Int)) [] cs ((195, .raw (tabObj ps')) :: ns))) : Cd (C2 w) (n + 3) L ls ((195, .raw (tabObj ps)) :: ns) (.ref 200) [Mine.S (sx cs)] Q := by
  refine' cd_defC (z := Str.ofString "signs") ?ho ?hcd ?hb ?hl ?hc ?h ?a ?b ?c
  case ho => walk_at "kis"
  case hcd => walk_at "kis"
  case a => rfl
  case b => rfl
  case c => rfl
  case hb => exact bnd1 fun _ => rfl
  case hl => exact locs rfl
  case hc => intro k; rfl
  case h =>
    intro L' cell
    dsimp only [List.reverse, List.reverseAux]
    walk_at "G"
    walk_at "call"
    walk_at "B list"
    walk_at "G"
    refine cl_listStr (by rw [sx_len, sizeLine_eq]; omega) fun t1 => ?_
    walk_at "G"
    refine sl_list (lo := none) (hi := none) (st := some (-1)) (.list (by walk_at "mem")) (by decide) (by simp [charsV, sizeLine_eq]; omega) fun sg => ?_
    rw [tx_rev, show (charsV (sx cs)).reverse = sigV cs from by simp [charsV, sigV]]
    refine as_cell (c := cell) (by walk_at "env") (by rfl) (by rfl) (by walk_at "put") ?_
    walk_at "G"
    walk_at "call"
    walk_at "F"
    walk_at "cwK"
    walk_at "G"
    refine (netrcNew fun st dst pb2 => ?_).cl
    walk_at "G"
    refine ev_lam2 (ps := ps) (P := 195) (cc := 199) (clos := [(Str.ofString "signs", cell)]) (by walk_at "env") (by rfl) (by rfl) (by rfl) lexHd (by walk_at "sel") ht (hnf _) (by decide) fun f c' oc fs t ctv pm ps' of hof hd hv => ?_
    walk_at "G"
    walk_at "seta"
    walk_at "G"
    walk_at "call"
    walk_at "F"
    walk_at "cwK"
    walk_at "G"
    refine (Cd.out (netrcNew fun x dx pb => ⟨(dx, .dict (LxF 1 st pb)) :: (pb, .list []) :: (sg, .list (sigV cs)) :: (LxS 132 ⟨x, dx, pb, st, dst, pb2, f, c', cell, sg, of, oc⟩ ++ ((195, .raw (tabObj ps')) :: ns)), by walk_at "pk", ?_⟩)).cl
    have key := h ⟨x, dx, pb, st, dst, pb2, f, c', cell, sg, of, oc⟩ ps' ⟨⟨_, _, _, _, hof⟩, ?_, ?_⟩
    · dsimp only [LxB, LxD] at key
      rw [show 1 + (nl cs : Int) - (nl cs : Int) = 1 from by omega] at key
      exact ⟨_, .refl _, key⟩
    · intro n L ls ns ns' vs v Q hz h1 h2 h3 u hQ
      dsimp only at h1 h2 h3 u ⊢
      rw [hof] at h1
      refine cd_lam h1 h2 hd hv (bnd1 fun _ => rfl) (locs rfl) (by decide) fun L' => ?_
      walk_at "G"
      refine tt_val ?_
      refine ev_free (by walk_at "env") (by rfl) (by rfl) h3 ?_
      refine tr_list (vs := vs ++ [v]) (.list u.mem) (by rw [sizeLine_eq]; simp; omega) ?_
      rw [if_pos (by simp)]
      walk_at "call"
      refine ev_free (by walk_at "env") (by rfl) (by rfl) h3 ?_
      refine gm_list u.mem PySem.F.slot_list_pop PySem.F.type_list_pop ?_
      walk_at "G"
      refine cl_pop u (by rw [sizeLine_eq]; omega) ?_
      exact ⟨_, .refl _, hQ⟩
    · intro n L ls ns Q h1 h2 h3 h4 hQ
      dsimp only at h1 h2 h3 h4 ⊢
      rw [hof] at h1
      refine cd_lam h1 h2 hd hv (bnd1 fun _ => rfl) (locs rfl) (by decide) fun L' => ?_
      walk_at "G"
      refine tt_val ?_
      refine ev_free (by walk_at "env") (by rfl) (by rfl) h3 ?_
      refine tr_list (vs := []) (.list h4) (by rw [sizeLine_eq]; decide) ?_
      rw [if_neg (by decide)]
      walk_at "G"
      exact ⟨_, .refl _, hQ⟩
theorem sum_le {ys : List Str} {b : Nat} (h : ∀ y ∈ ys, y.length ≤ b) : (ys.map fun y => y.length).sum ≤ ys.length * b := by
  induction ys with
  | nil => simp
  | cons y r ih =>
    rw [List.map_cons, List.sum_cons, List.length_cons, Nat.succ_mul]
    have := h y (.head _)
    have := ih fun z hz => h z (.tail _ hz)
    omega
theorem join_len {ys : List Str} {b : Nat} (h : ∀ y ∈ ys, y.length ≤ b) : (Txt.join ⟨#[]⟩ ys).length ≤ ys.length * b := by
  have e := size_glued ⟨#[]⟩ ys
  unfold Txt.join
  rw [e]
  have := sum_le h
  have h0 : (⟨#[]⟩ : Str).length = 0 := rfl
  rw [h0, Nat.mul_zero]
  exact this
theorem turnC {w : World} {n : Nat} {L : Addr} {ls : LS} {ns : NS} {x : Str} {Q : Value → NS → Prop} (hx : x.length ≤ 50) (hs : (Txt.split x (sx [9])) ≠ []) (hl : (Txt.split x (sx [9])).length ≤ 60) (hp : ∀ y ∈ Txt.split x (sx [9]), y.length ≤ 60) (h : Q (Mine.S (turnS x)) ns) : Cd (C2 w) (n + 1) L ls ns (.ref 148) [Mine.S x] Q := by
  walk_at "def"
  walk_at "G"
  walk_at "call"
  walk_at "G"
  refine gm_str PySem.F.slot_str_split PySem.F.type_str_split ?_
  walk_at "G"
  refine cl_split (y := sx [9]) (by decide) (by rw [sizeLine_eq]; omega) fun t => ?_
  walk_at "G"
  walk_at "call"
  walk_at "G"
  refine gm_str PySem.F.slot_str_join PySem.F.type_str_join ?_
  walk_at "G"
  generalize hS : Txt.split x (sx [9]) = sp at *
  have hS' : Txt.split x (Str.ofString "\t") = sp := hS
  refine ev_comp (by rfl) (by decide) (by rfl) (by decide) ?_
  walk_at "G"
  refine sl_list (lo := none) (hi := some (-1)) (st := none) (.list (by walk_at "mem")) (by decide) (by rw [List.length_map, sizeLine_eq]; omega) fun t2 => ?_
  rw [tx_butlast]
  walk_at "G"
  refine sl_list (lo := none) (hi := none) (st := some (-1)) (.list (by walk_at "mem")) (by decide) (by rw [List.length_dropLast, List.length_map, sizeLine_eq]; omega) fun t3 => ?_
  rw [tx_rev]
  refine itr_list (by walk_at "sel") ?_
  intro Cn
  have e1 : (((sp.map Mine.S).dropLast).reverse.map fun v => [(Str.ofString "piece", v)]) = (sp.dropLast.reverse).map fun y => [(Str.ofString "piece", Mine.S y)] := by
    rw [← List.map_dropLast, ← List.map_reverse, List.map_map]; rfl
  rw [e1]
  have hpd : ∀ y ∈ sp.dropLast.reverse, y.length ≤ 60 := fun y hy => hp y (List.dropLast_subset _ (List.mem_reverse.mp hy))
  refine ml_list _ (fun ys r => ys ++ r.map (fun y => Mine.S (y ++ sx [9])) = (sp.dropLast.reverse).map (fun y => Mine.S (y ++ sx [9])) ∧ ∀ y ∈ r, y.length ≤ 60) (fun ys hI => ?nil) (fun ys c r hI ih => ?cons) _ [] ⟨rfl, hpd⟩
  case cons =>
    have hlen := congrArg List.length hI.1
    simp only [List.length_append, List.length_map, List.length_cons, List.length_reverse, List.length_dropLast] at hlen
    refine ml_cons (by walk_at "env") (by rfl) (by rw [sizeLine_eq]; omega) ?_
    walk_at "G"
    have hc := hI.2 c (.head _)
    refine bin_add_str (y := sx [9]) (by rw [sizeLine_eq]; have : (sx [9]).length = 1 := rfl; omega) ?_
    exact ih _ ⟨by rw [← hI.1]; simp, fun y hy => hI.2 y (.tail _ hy)⟩
  case nil =>
    have hy : ys = (sp.dropLast.reverse.map (· ++ sx [9])).map Mine.S := by
      have := hI.1
      rw [List.map_nil, List.append_nil] at this
      rw [this, List.map_map]; rfl
    subst hy
    have hb : ∀ y ∈ sp.dropLast.reverse.map (· ++ sx [9]), y.length ≤ 61 := fun y hy => by
      obtain ⟨z, hz, rfl⟩ := List.mem_map.mp hy
      have := hpd z hz
      have h1 : (sx [9]).length = 1 := rfl
      rw [Str.length_append]; omega
    have hn : (sp.dropLast.reverse.map (· ++ sx [9])).length ≤ 60 := by simp; omega
    intro D
    walk_at "G"
    refine cl_join (x := ⟨#[]⟩) (ys := sp.dropLast.reverse.map (· ++ sx [9])) (.list (by walk_at "mem")) (by decide) (by have := sum_le hb; omega) ?_
    walk_at "G"
    have hlast : sp = sp.dropLast ++ [sp.getLastD ⟨#[]⟩] := by
      rw [List.getLastD_eq_getLast?, List.getLast?_eq_some_getLast hs]
      exact (List.dropLast_concat_getLast hs).symm
    refine sb_listR (i := -1) (vs := sp.map Mine.S) (v := Mine.S (sp.getLastD ⟨#[]⟩)) (.list (by walk_at "mem")) (by decide) (by rw [List.length_map]; have : 0 < sp.length := List.length_pos_iff.mpr hs; omega) (by rw [List.length_map, sizeLine_eq]; omega) ?_ ?_ (by intros; rfl)
    · rw [List.length_map, List.getElem?_map]
      have h0 : 0 < sp.length := List.length_pos_iff.mpr hs
      have e : ((-1 : Int) + (sp.length : Int)).toNat = sp.length - 1 := by omega
      rw [e, ← List.getLast?_eq_getElem?, List.getLast?_eq_some_getLast hs, List.getLastD_eq_getLast?, List.getLast?_eq_some_getLast hs]
      rfl
    · refine bin_add_str ?_ ?_
      · have h1 := join_len hb
        have h2 : (sp.getLastD ⟨#[]⟩).length ≤ 60 := hp _ (by rw [hlast]; simp)
        rw [sizeLine_eq]
        have h3 : (sp.dropLast.reverse.map (· ++ sx [9])).length * 61 ≤ 60 * 61 := Nat.mul_le_mul_right _ hn
        omega
      · walk_at "G"
        refine ⟨ns, by walk_at "sub", ?_⟩
        unfold turnS at h
        rw [hS] at h
        exact h
theorem heapsC {w : World} {n : Nat} {L : Addr} {ls : LS} {ns : NS} {a : Addr} {xs : List Int} {Q : Value → NS → Prop} (hm : HasL ns a (xs.map I)) (hx : xs.length ≤ 63) (h : ∀ t (hs : List Nat), hs.length = 6 → (∀ k ∈ hs, k ≤ 20000000) → Q (.ref t) ((t, .list (hs.map fun k : Nat => I (k : Int))) :: ns)) : Cd (C2 w) (n + 1) L ls ns (.ref 143) [.ref a] Q := by
  walk_at "def"
  walk_at "G"
  refine ev_list (by rfl) ?_
  walk_at "G"
  refine ⟨of_decide_eq_true rfl, fun t => ?_⟩
  walk_at "G"
  walk_at "for"
  walk_at "call"
  walk_at "B range"
  walk_at "G"
  walk_at "call"
  walk_at "B min"
  walk_at "G"
  walk_at "call"
  walk_at "B len"
  walk_at "G"
  have hm2 : ∀ o, HasL ((t, o) :: ns) a (xs.map I) := fun o => by cases hm with | list q => exact .list (.tail _ q) | raw q z => exact .raw (.tail _ q) z
  refine cl_len (hm2 _) (by rw [List.length_map, sizeLine_eq]; omega) ?_
  rw [List.length_map]
  walk_at "G"
  refine cl_min ?_
  walk_at "G"
  refine cl_range1 fun r t1 t2 t3 => ?_
  refine itr_range .hd (by omega) (by omega) ?_
  unfold rangeL
  have e0 : (min (xs.length : Int) 18 - 0).toNat = min xs.length 18 := by omega
  rw [e0]
  refine fl_st (ls' := [(Str.ofString "heaps", .ref t), (Str.ofString "script", .ref a)]) (ns' := (t, .list ([392, 2741, 38402, 1010, 6465, 128032].map fun k : Nat => I (k : Int))) :: ns) (by walk_at "ls") (by walk_at "pk")
    (fl_list (α := List Nat) _ (fun u r => u.length = 6 ∧ (∀ k ∈ u, k + 1000000 * r.length ≤ 200000 + 1000000 * min xs.length 18) ∧ ∀ k ∈ r, k < min xs.length 18)
      (fun _ => [(Str.ofString "heaps", .ref t), (Str.ofString "script", .ref a)]) (fun u => (t, .list (u.map fun k : Nat => I (k : Int))) :: ns) (fun u hI => ?nil) (fun u k r hI ih => ?cons) _ [392, 2741, 38402, 1010, 6465, 128032] ⟨rfl, by simp, fun k hk => List.mem_range.mp hk⟩)
  case nil =>
    walk_at "G"
    exact ⟨_, .refl _, h t u hI.1 fun k hk => by have := hI.2.1 k hk; simp at this; omega⟩
  case cons =>
    obtain ⟨h1, h2, h3⟩ := hI
    have hk := h3 k (.head _)
    refine fl_cons (by walk_at "env") (by rfl) ?_
    walk_at "G"
    refine x_augSub ?_
    walk_at "G"
    have e1 : ((0 : Int) + (k : Int)).fmod 6 = ((k % 6 : Nat) : Int) := by rw [Int.fmod_eq_emod_of_nonneg _ (by decide)]; omega
    rw [e1]
    have h6 : k % 6 < u.length := by omega
    have hkx : k < xs.length := by omega
    refine op_getItem (v := I ((u[k % 6] : Nat) : Int)) (vs := u.map fun k : Nat => I (k : Int)) (.list (by walk_at "mem")) (by omega) (by rw [List.length_map, sizeLine_eq]; omega) (by rw [show ((k % 6 : Nat) : Int).toNat = k % 6 from by omega, List.getElem?_map, List.getElem?_eq_getElem h6]; rfl) ?_
    walk_at "G"
    refine sb_list (i := (0 : Int) + (k : Int)) (v := I xs[k]) (vs := xs.map I) (hm2 _) (by omega) (by rw [List.length_map, sizeLine_eq]; omega) (by
      rw [show ((0 : Int) + (k : Int)).toNat = k from by omega, List.getElem?_map, List.getElem?_eq_getElem hkx]; rfl) ?_ (by intros; rfl)
    walk_at "G"
    have hn0 : 0 ≤ xs[k].fmod 1000000 := Int.fmod_nonneg_of_pos _ (by decide)
    have hn1 : xs[k].fmod 1000000 < 1000000 := Int.fmod_lt_of_pos _ (by decide)
    refine set_item2 (by walk_at "put") (by omega) (by rw [List.length_map]; omega) (by rw [List.length_map, sizeLine_eq]; omega) ?_
    walk_at "G"
    have e2 : (u.map fun k : Nat => I (k : Int)).set ((k % 6 : Nat) : Int).toNat (I (((u[k % 6] : Nat) : Int) + xs[k].fmod 1000000)) = (u.set (k % 6) (u[k % 6] + (xs[k].fmod 1000000).toNat)).map fun k : Nat => I (k : Int) := by
      rw [List.map_set, show ((k % 6 : Nat) : Int).toNat = k % 6 from by omega]
      have e3 : ((u[k % 6] : Nat) : Int) + xs[k].fmod 1000000 = ((u[k % 6] + (xs[k].fmod 1000000).toNat : Nat) : Int) := by omega
      rw [e3]
    rw [e2]
    refine fl_st (by walk_at "ls") (by walk_at "pk") (ih _ ⟨by simp [h1], fun m hm' => ?_, fun m hm' => h3 m (.tail _ hm')⟩)
    simp only [List.length_cons] at h2
    rcases List.mem_or_eq_of_mem_set hm' with q | q
    · have := h2 m q; omega
    · have := h2 u[k % 6] (List.getElem_mem h6); omega
theorem letters2 {w : World} {n : Nat} {L : Addr} {ls : LS} {ns : NS} {v : Int} {Q : Value → NS → Prop} (hk : v.natAbs < 16 ^ 60) (h : Q (Mine.S (sx (numL v))) ns) : Cd (C2 w) (n + 1) L ls ns (.ref 181) [I v] Q := by
  walk_at "def"
  walk_at "G"
  walk_at "call"
  walk_at "B abs"
  walk_at "G"
  refine cl_abs ?_
  walk_at "G"
  refine wl_st (ls' := [(Str.ofString "letters", Mine.S (sx [])), (Str.ofString "left", I (v.natAbs : Int)), (Str.ofString "number", I v)]) (ns' := ns) (by walk_at "ls") .refl (wl_ind (fun a : Nat × List Nat => hexw a.1 ++ a.2 = hexw v.natAbs) (·.1) (fun a => [(Str.ofString "letters", Mine.S (sx a.2)), (Str.ofString "left", I a.1), (Str.ofString "number", I v)]) (fun _ => ns) (fun a hI ih => ?_) (v.natAbs, []) (by simp))
  obtain ⟨j, acc⟩ := a
  dsimp only at hI ih ⊢
  refine wl_step ?_
  walk_at "G"
  have hlen := hexw_len 60 _ hk
  rw [← hI, List.length_append] at hlen
  by_cases hj : 0 < j
  · rw [if_pos (by simpa using hj)]
    walk_at "G"
    rw [fmod16]
    refine sb_str (by omega) (by show ((j % 16 : Nat) : Int) < 16; omega) (by decide) ?_ (by intros; rfl) (by intros; rfl)
    rw [letters_at (by omega)]
    walk_at "G"
    refine bin_add_str (by rw [sx_len, sx_len, sizeLine_eq]; simp; omega) ?_
    rw [sx_app]
    walk_at "G"
    refine bin_div_int (by decide) (pylong_small (by decide)) ?_
    rw [fdiv16]
    walk_at "G"
    exact wl_st (by walk_at "ls") .refl (ih (j / 16, [65 + j % 16] ++ acc) (by dsimp only; omega) (by rw [← hI, hexw_pos hj]; simp))
  · rw [if_neg (by simpa using hj)]
    have : j = 0 := by omega
    subst this
    rw [hexw_zero, List.nil_append] at hI
    subst hI
    walk_at "G"
    try refine cmp_lt_int ?_
    try walk_at "G"
    unfold numL at h
    by_cases hv : v < 0
    · rw [if_pos (by simpa using hv)]
      rw [if_pos hv] at h
      walk_at "G"
      refine bin_add_str (x := sx [45]) (by rw [sx_len, sx_len, sizeLine_eq]; simp <;> omega) ?_
      rw [sx_app]
      exact ⟨ns, .refl _, h⟩
    · rw [if_neg (by simpa using hv)]
      rw [if_neg hv] at h
      walk_at "G"
      exact ⟨ns, .refl _, h⟩
theorem word2 {w : World} {n : Nat} {L : Addr} {ls : LS} {ns : NS} {v : Int} {Q : Value → NS → Prop} (hk : v.natAbs < 16 ^ 60) (h : Q (Mine.S (sx (numL v))) ns) : Cd (C2 w) (n + 2) L ls ns (.ref 174) [I v] Q := by
  walk_at "def"
  walk_at "G"
  have hlen := hexw_len 60 v.natAbs hk
  unfold numL at h
  by_cases hv : v < 0
  · rw [if_pos (by simpa using hv)]
    rw [if_pos hv] at h
    walk_at "G"
    walk_at "call"
    walk_at "G"
    refine gm_str PySem.F.slot_str_join PySem.F.type_str_join ?_
    walk_at "G"
    refine ev_comp (by rfl) (by decide) (by rfl) (by decide) ?_
    walk_at "call"
    walk_at "F"
    walk_at "cwK"
    walk_at "G"
    refine (int2ap hk ?_).cl
    refine itr_bytes ?_
    intro Cn
    refine chr_loop (fun ys c rest hc hy hh => ?_) _ [] (fun c hc => by have := hexw_big hc; omega) (by simp; omega) ?_
    · refine ml_cons (by walk_at "env") (by rfl) (by rw [sizeLine_eq]; omega) ?_
      walk_at "call"
      walk_at "B chr"
      walk_at "G"
      refine cl_chr (by omega) (by omega) ?_
      exact hh
    · intro D
      walk_at "G"
      refine cl_join (x := ⟨#[]⟩) (ys := ((hexw v.natAbs).map fun c => [c]).map sx) (.list (by simp)) (by decide) (by rw [sum_one]; simp; omega) ?_
      rw [glued_nil]
      rw [flat_one]
      refine bin_add_str (x := sx [45]) (by rw [sx_len, sx_len, sizeLine_eq]; simp <;> omega) ?_
      rw [sx_app]
      exact ⟨ns, by simp, h⟩
  · rw [if_neg (by simpa using hv)]
    rw [if_neg hv] at h
    walk_at "G"
    walk_at "call"
    walk_at "G"
    refine gm_str PySem.F.slot_str_join PySem.F.type_str_join ?_
    walk_at "G"
    refine ev_comp (by rfl) (by decide) (by rfl) (by decide) ?_
    walk_at "call"
    walk_at "F"
    walk_at "cwK"
    walk_at "G"
    refine (int2ap hk ?_).cl
    refine itr_bytes ?_
    intro Cn
    refine chr_loop (fun ys c rest hc hy hh => ?_) _ [] (fun c hc => by have := hexw_big hc; omega) (by simp; omega) ?_
    · refine ml_cons (by walk_at "env") (by rfl) (by rw [sizeLine_eq]; omega) ?_
      walk_at "call"
      walk_at "B chr"
      walk_at "G"
      refine cl_chr (by omega) (by omega) ?_
      exact hh
    · intro D
      walk_at "G"
      refine cl_join (x := ⟨#[]⟩) (ys := ((hexw v.natAbs).map fun c => [c]).map sx) (.list (by simp)) (by decide) (by rw [sum_one]; simp; omega) ?_
      rw [glued_nil]
      rw [flat_one]
      refine bin_add_str (x := sx []) (by rw [sx_len, sx_len, sizeLine_eq]; simp <;> omega) ?_
      rw [sx_app]
      exact ⟨ns, by simp, h⟩
theorem value2 {w : World} {n : Nat} {L : Addr} {ls : LS} {ns : NS} {v : Int} {Q : Value → NS → Prop} (hk : v.natAbs < BB) (h : Q (I v) ns) : Cd (C2 w) (n + 1) L ls ns (.ref 188) [Mine.S (sx (numL v))] Q := by
  walk_at "def"
  walk_at "G"
  walk_at "for"
  refine itr_str ?_
  rw [signs_sx]
  refine fl_st (ls' := [(Str.ofString "number", I ((0 : Nat) : Int)), (Str.ofString "word", Mine.S (sx (numL v)))]) (by walk_at "ls") .refl (fl_list (α := Nat) _ (fun a r => valS a r = v.natAbs ∧ ∀ c ∈ r, c = 45 ∨ 65 ≤ c) (fun a => [(Str.ofString "number", I (a : Int)), (Str.ofString "word", Mine.S (sx (numL v)))]) (fun _ => ns) (fun a hI => ?_) (fun a c r hI ih => ?_) (numL v) 0 ⟨valS_num v, fun c hc => (numL_big hc).imp id And.left⟩)
  · have ha : a = v.natAbs := hI.1
    subst ha
    walk_at "G"
    have hl61 := numL_len hk
    refine sl_str (lo := none) (hi := some (1 : Int)) (by rw [sx_len, sizeLine_eq]; omega) ?_
    rw [tx_one]
    walk_at "G"
    rw [show Str.ofString "-" = sx [45] from rfl, sx_beq, numL_sign]
    by_cases hv : v < 0
    · rw [if_pos (decide_eq_true hv)]
      walk_at "G"
      rw [show -(v.natAbs : Int) = v from by omega]
      exact ⟨ns, .refl _, h⟩
    · rw [if_neg (by simpa using hv)]
      walk_at "G"
      rw [show (v.natAbs : Int) = v from by omega]
      exact ⟨ns, .refl _, h⟩
  · refine fl_cons (by walk_at "env") (by rfl) ?_
    walk_at "G"
    have hI1 := hI.1
    rw [valS_cons] at hI1
    have hc := hI.2 c (.head _)
    have e1 : (sx [c] != Str.ofString "-") = decide (c ≠ 45) := by
      rw [show Str.ofString "-" = sx [45] from rfl, bne, sx_beq]
      by_cases h : c = 45 <;> simp [h]
    rw [e1]
    by_cases h45 : c = 45
    · rw [if_pos h45] at hI1
      rw [if_neg (by simpa using h45)]
      walk_at "G"
      exact fl_st (by walk_at "ls") .refl (ih a ⟨hI1, fun c' h' => hI.2 c' (.tail _ h')⟩)
    · rw [if_neg h45] at hI1
      rw [if_pos (decide_eq_true h45)]
      walk_at "G"
      refine bin_mul_int (.of_left (by decide)) ?_
      walk_at "G"
      walk_at "call"
      walk_at "B ord"
      walk_at "G"
      refine cl_ord ?_
      walk_at "G"
      have e2 : 16 * (a : Int) + (c : Int) - 65 = ((16 * a + (c - 65) : Nat) : Int) := by omega
      rw [e2]
      exact fl_st (by walk_at "ls") .refl (ih _ ⟨hI1, fun c' h' => hI.2 c' (.tail _ h')⟩)
theorem numberC {w : World} {n : Nat} {L : Addr} {ls : LS} {ns : NS} {k : Nat} {Q : Value → NS → Prop} (h : Q (I (numF k)) ns) : Cd (C2 w) (n + 1) L ls ns (.ref 169) [I (k : Int)] Q := by
  walk_at "def"
  walk_at "G"
  refine bin_div_int (by decide) (pylong_small (by decide)) ?_
  walk_at "G"
  have e1 : ((k : Int).fdiv 128).fmod 4096 = ((k / 128 % 4096 : Nat) : Int) := by rw [Int.fdiv_eq_ediv_of_nonneg _ (by decide), Int.fmod_eq_emod_of_nonneg _ (by decide)]; rfl
  have e2 : ((k : Int).fdiv 64).fmod 2 = ((k / 64 % 2 : Nat) : Int) := by rw [Int.fdiv_eq_ediv_of_nonneg _ (by decide), Int.fmod_eq_emod_of_nonneg _ (by decide)]; rfl
  rw [e1]
  refine bin_div_int (by decide) (pylong_small (by decide)) ?_
  walk_at "G"
  rw [e2]
  unfold numF at h
  by_cases h0 : k / 64 % 2 = 0
  · rw [if_pos (by rw [h0]; rfl)]
    rw [if_pos h0] at h
    walk_at "G"
    exact ⟨ns, .refl _, h⟩
  · rw [if_neg (by simp; omega)]
    rw [if_neg h0] at h
    walk_at "G"
    exact ⟨ns, .refl _, h⟩
theorem equalC {w : World} {n : Nat} {L : Addr} {ls : LS} {ns : NS} {l l2 : List Nat} {x dx t ct x2 dx2 t2 ct2 : Addr} {Q : Value → NS → Prop} (hw : HasW 83 ns l x dx t ct) (hv : HasW 83 ns l2 x2 dx2 t2 ct2) (hl : l.length ≤ 200) (hl2 : l2.length ≤ 200) (h : Q (.bool (equalW (wsOf l) (wsOf l2))) ns) : Cd (C2 w) (n + 5) L ls ns (.ref 59) [.ref x, .ref x2] Q := by
  walk_at "def"
  walk_at "G"
  refine at_own hw.i hw.d (by walk_at "kis") (by walk_at "kis") (by walk_at "kis") (by walk_at "kis") (by rfl) (by rfl) ?_
  walk_at "G"
  refine at_own hv.i hv.d (by walk_at "kis") (by walk_at "kis") (by walk_at "kis") (by walk_at "kis") (by rfl) (by rfl) ?_
  have rdN : ∀ l : List Nat, RdA ns (l.map fun c : Nat => I (c : Int)) (l.map fun c : Nat => PyData.int (c : Int)) := fun l => by
    have := rd_ints (ns := ns) (l.map fun c : Nat => (c : Int))
    rw [List.map_map, List.map_map] at this
    exact this
  refine cmp_eq_data (da := normD (wsOf l).cnt (wsOf l).b) (db := normD (wsOf l2).cnt (wsOf l2).b) (by omega) (.tup hw.t (.cons (.tup hw.c (rdN _)) (.cons (.int _) .nil))) (.tup hv.t (.cons (.tup hv.c (rdN _)) (.cons (.int _) .nil))) (norm_shaped _ _) (norm_shaped _ _) ?_
  rw [eqv_norm]
  walk_at "G"
  exact ⟨ns, .refl _, h⟩
theorem levelsC {w : World} {n : Nat} {L : Addr} {ls : LS} {ns ns1 : NS} {a : Addr} {hs : List Nat} {Q : Value → NS → Prop} (hsel : Sel a (.list (hs.map fun k : Nat => I (k : Int))) ns ns1) (hl : hs.length ≤ 6)
    (h : ∀ t, Q (.ref t) ((t, .list ((levelsF hs).map fun k : Nat => I (k : Int))) :: ns)) : Cd (C2 w) (n + 1) L ls ns (.ref 155) [.ref a] Q := by
  walk_at "def"
  walk_at "G"
  refine ev_list (by rfl) ?_
  walk_at "G"
  refine ⟨of_decide_eq_true rfl, fun t => ?_⟩
  walk_at "G"
  walk_at "for"
  refine itr_list (.tl hsel) ?_
  rw [List.map_map]
  refine fl_st (ls' := [(Str.ofString "levels", .ref t)]) (ns' := (t, .list []) :: ns1) (by walk_at "ls") (by walk_at "pk")
    (fl_list (α := List Nat) _ (fun b r => r.foldl (fun ls h => ls ++ [nextLv ls h]) b = levelsF hs ∧ b.length + r.length ≤ 6) (fun _ => [(Str.ofString "levels", .ref t)]) (fun b => (t, .list (b.map fun k : Nat => I (k : Int))) :: ns1) (fun b hI => ?nil) (fun b c r hI ih => ?cons) hs [] ⟨rfl, by simpa using hl⟩)
  case nil =>
    have hI1 := hI.1
    rw [List.foldl_nil] at hI1
    subst hI1
    refine ex_st (ls' := [(Str.ofString "levels", .ref t)]) (ns' := (t, .list ((levelsF hs).map fun k : Nat => I (k : Int))) :: ns) (by walk_at "ls") (.pick (.tl .hd) hsel.pk) ?_
    walk_at "G"
    exact ⟨_, .refl _, h t⟩
  case cons =>
    have hI1 := hI.1
    have hI2 := hI.2
    rw [List.foldl_cons] at hI1
    simp only [List.length_cons] at hI2
    refine fl_cons (by walk_at "env") (by rfl) ?_
    walk_at "G"
    refine tt_val ?_
    walk_at "G"
    refine tr_list (vs := b.map fun k : Nat => I (k : Int)) (.list (by walk_at "mem")) (by rw [sizeLine_eq, List.length_map]; omega) ?_
    have e4 : (c : Int).fmod 4 = ((c % 4 : Nat) : Int) := by rw [Int.fmod_eq_emod_of_nonneg _ (by decide)]; rfl
    cases hg : b.getLast? with
    | none =>
      have hb : b = [] := by simpa using hg
      subst hb
      rw [if_neg (by decide)]
      walk_at "G"
      walk_at "call"
      walk_at "G"
      refine gm_list (by walk_at "mem") slot_list_append PySem.F.type_list_append ?_
      walk_at "G"
      walk_at "call"
      walk_at "B min"
      walk_at "G"
      refine cl_min ?_
      walk_at "G"
      refine cl_append (by walk_at "put") (by rw [sizeLine_eq, List.length_map]; simp) ?_
      walk_at "G"
      refine fl_st (by walk_at "ls") (by
        have e5 : min ((c % 4 : Nat) : Int) 0 = ((nextLv [] c : Nat) : Int) := by
          show _ = ((min (c % 4) 0 : Nat) : Int)
          omega
        rw [e4, e5]
        walk_at "pk") (ih ([] ++ [nextLv [] c]) ⟨hI1, by simp; simp at hI2; omega⟩)
    | some l =>
      have hb : b ≠ [] := by intro e; rw [e] at hg; cases hg
      have hpos : 0 < b.length := List.length_pos_iff.mpr hb
      rw [if_pos (by simp [hb])]
      walk_at "G"
      refine sb_listR (i := -1) (vs := b.map fun k : Nat => I (k : Int)) (v := I (l : Int)) (.list (by walk_at "mem")) (by decide) (by rw [List.length_map]; omega) (by rw [List.length_map, sizeLine_eq]; omega) (by
        rw [List.length_map, List.getElem?_map, show ((-1 : Int) + (b.length : Int)).toNat = b.length - 1 from by omega, ← List.getLast?_eq_getElem?, hg]; rfl) ?_ (by intros; rfl)
      walk_at "G"
      walk_at "call"
      walk_at "G"
      refine gm_list (by walk_at "mem") slot_list_append PySem.F.type_list_append ?_
      walk_at "G"
      walk_at "call"
      walk_at "B min"
      walk_at "G"
      refine cl_min ?_
      walk_at "G"
      refine cl_append (by walk_at "put") (by rw [sizeLine_eq, List.length_map]; omega) ?_
      walk_at "G"
      refine fl_st (by walk_at "ls") (by
        rw [e4, show (b.map fun k : Nat => I (k : Int)) ++ [I (min ((c % 4 : Nat) : Int) ((l : Int) + 1))] = (b ++ [nextLv b c]).map fun k : Nat => I (k : Int) from by
          rw [List.map_append, List.map_singleton]
          unfold nextLv
          rw [hg]
          dsimp only
          congr 3
          omega]
        walk_at "pk") (ih (b ++ [nextLv b c]) ⟨hI1, by rw [List.length_append, List.length_singleton]; omega⟩)
theorem walkC {w : World} {n : Nat} {L : Addr} {ls : LS} {ns : NS} {a : LX} {K : Int} {cs : List Nat} {r0 : Row2} {rs0 : List Row2} {Q : Value → NS → Prop} (hrow : Rows2Ok (r0 :: rs0)) (hok : wkOk r0 rs0) (hlen : rs0.length ≤ 10)
    (h : Q .none (LxB 132 a K (rowV2 (wk r0 rs0) ++ [Mine.S (sx [46])]) cs ns)) : Cd (C2 w) (n + 7) L ls (LxB 132 a K (rowV2 (r0 :: rs0) ++ [Mine.S (sx [46])]) cs ns) (.ref 207) [.ref a.x] Q := by
  walk_at "def"
  walk_at "G"
  walk_at "call"
  walk_at "G"
  refine gm_inst (f := 122) (by walk_at "mem") (by walk_at "mem") (by walk_at "kis") (by walk_at "kis") (by walk_at "kis") (by rfl) ?_
  walk_at "cwK"
  walk_at "G"
  refine (Cd.pk (ns' := LxB 132 a K (Mine.S (sx (row2L r0)) :: tlQ2 (r0 :: rs0) []) cs ns) (by rw [← tl2_dot]; exact .refl) (gettP (by rw [tl2_len]; simp; omega) ?_)).cl
  walk_at "G"
  rw [tl2_hd]
  walk_at "call"
  walk_at "G"
  refine gm_inst (f := 122) (by walk_at "mem") (by walk_at "mem") (by walk_at "kis") (by walk_at "kis") (by walk_at "kis") (by rfl) ?_
  walk_at "cwK"
  walk_at "G"
  refine (gettP (by rw [tl2_len]; simp; omega) ?_).cl
  walk_at "G"
  walk_at "call"
  walk_at "F"
  walk_at "cwK"
  walk_at "G"
  have hb0 : r0.2.natAbs < BB := by cases rs0 with | nil => exact hok | cons b r => exact hok.1
  have hr0 := hrow r0 List.mem_cons_self
  have hrs0 : Rows2Ok rs0 := fun y hy => hrow y (List.mem_cons_of_mem _ hy)
  have hv0 : ∀ (h : Row2) (rs : List Row2), wkOk h rs → Rows2Ok rs → (hdL2 rs).length ≤ 200 := fun h rs ho hr => by
    cases rs with
    | nil => simp [hdL2]
    | cons b r => have := row2_len (hr b List.mem_cons_self).2 ho.2.1; simp only [hdL2]; omega
  refine (wsNew (by have := row2_len hr0.2 hb0; omega) fun x dx tt ct => ?_).cl
  walk_at "G"
  walk_at "call"
  walk_at "F"
  walk_at "cwK"
  walk_at "G"
  refine (wsNew (hv0 _ _ hok hrs0) fun y dy ty cy => ?_).cl
  walk_at "G"
  refine wl_st (ls' := [(Str.ofString "held", Mine.S (sx (row2L r0))), (Str.ofString "behind", Mine.S (sx (hdL2 rs0))), (Str.ofString "one", .ref x), (Str.ofString "two", .ref y), (Str.ofString "lexer", .ref a.x)])
    (ns' := LxB 132 a K (tlQ2 rs0 []) cs (WsB 83 x dx tt ct (row2L r0) ++ (WsB 83 y dy ty cy (hdL2 rs0) ++ ns))) (by walk_at "ls") (by walk_at "pk")
    (wl_ind (α := (Row2 × List Row2 × List Row2 × List Nat) × (Addr × Addr × Addr × Addr) × (Addr × Addr × Addr × Addr))
      (fun b => b.1.2.2.1 ++ wk b.1.1 b.1.2.1 = wk r0 rs0 ∧ wkOk b.1.1 b.1.2.1 ∧ Rows2Ok (b.1.1 :: b.1.2.1) ∧ b.1.2.1.length + b.1.2.2.1.length ≤ 10 ∧ wsOf b.1.2.2.2 = wsOf b.1.1.1 ∧ b.1.2.2.2.length ≤ 200)
      (fun b => b.1.2.1.length)
      (fun b => [(Str.ofString "held", Mine.S (sx (row2L b.1.1))), (Str.ofString "behind", Mine.S (sx (hdL2 b.1.2.1))), (Str.ofString "one", .ref b.2.1.1), (Str.ofString "two", .ref b.2.2.1), (Str.ofString "lexer", .ref a.x)])
      (fun b => LxB 132 a K (tlQ2 b.1.2.1 b.1.2.2.1) cs (WsB 83 b.2.1.1 b.2.1.2.1 b.2.1.2.2.1 b.2.1.2.2.2 b.1.2.2.2 ++ (WsB 83 b.2.2.1 b.2.2.2.1 b.2.2.2.2.1 b.2.2.2.2.2 (hdL2 b.1.2.1) ++ ns)))
      (fun b hI ih => ?_) ((r0, rs0, [], row2L r0), (x, dx, tt, ct), (y, dy, ty, cy)) ⟨rfl, hok, hrow, by simpa using hlen, wsOf_row2 hr0.1, by have := row2_len hr0.2 hb0; dsimp only; omega⟩)
  clear hrow hok hlen hb0 hr0 hrs0
  obtain ⟨⟨hr, rem, pushed, l1⟩, ⟨x, dx, tt, ct⟩, y, dy, ty, cy⟩ := b
  obtain ⟨i1, i2, i3, i4, i5, i6⟩ := hI
  dsimp only at i1 i2 i3 i4 i5 i6 ih ⊢
  refine wl_step ?_
  walk_at "G"
  rw [show Str.ofString "." = sx [46] from rfl]
  have eNe : ∀ l : List Nat, (sx l != sx [46]) = (l != [46]) := fun l => by rw [bne, bne, sx_beq]
  rw [eNe]
  cases rem with
  | nil =>
    rw [if_neg (by simp [hdL2])]
    walk_at "G"
    walk_at "call"
    walk_at "G"
    refine gm_inst (f := 129) (by walk_at "mem") (by walk_at "mem") (by walk_at "kis") (by walk_at "kis") (by walk_at "kis") (by rfl) ?_
    walk_at "cwK"
    walk_at "G"
    simp only [List.length_nil] at i4
    refine (pushC (by rw [tl2_len]; simp only [List.length_nil]; omega) ?_).cl
    rw [tl2_snoc]
    walk_at "G"
    walk_at "call"
    walk_at "G"
    refine gm_inst (f := 129) (by walk_at "mem") (by walk_at "mem") (by walk_at "kis") (by walk_at "kis") (by walk_at "kis") (by rfl) ?_
    walk_at "cwK"
    walk_at "G"
    refine (pushC (by rw [tl2_len, List.length_append]; simp only [List.length_nil, List.length_singleton]; omega) ?_).cl
    walk_at "G"
    rw [wk] at i1
    rw [← i1] at h
    exact ⟨_, List.Sublist.append_left (List.Sublist.append_left (List.sublist_append_of_sublist_right (List.sublist_append_right _ _)) _) _, h⟩
  | cons b r =>
    have hh := i3 hr List.mem_cons_self
    have hb := i3 b (List.mem_cons_of_mem _ List.mem_cons_self)
    have hrr : Rows2Ok r := fun y hy => i3 y (List.mem_cons_of_mem _ (List.mem_cons_of_mem _ hy))
    obtain ⟨bh, bb, i2'⟩ := i2
    have lh := row2_len hh.2 bh
    have lb := row2_len hb.2 bb
    have hn1 : (wsOf l1).n ≤ (row2L hr).length := by rw [i5, wsOf_n hh.1]; unfold row2L; rw [List.length_append]; omega
    have hd1 : (row2L hr).drop (wsOf l1).n = numL hr.2 := by rw [i5, wsOf_n hh.1]; simp [row2L]
    have ht1 : (row2L hr).take (wsOf l1).n = hr.1 := by rw [i5, wsOf_n hh.1]; simp [row2L]
    have hn2 : (wsOf (row2L b)).n ≤ (row2L b).length := by rw [row2_n hb.1]; unfold row2L; rw [List.length_append]; omega
    have hd2 : (row2L b).drop (wsOf (row2L b)).n = numL b.2 := by rw [row2_n hb.1]; simp [row2L]
    have hlr : (hdL2 r).length ≤ 200 := by
      cases r with
      | nil => simp [hdL2]
      | cons c r =>
        have hc := hrr c List.mem_cons_self
        have bc : c.2.natAbs < BB := by
          split at i2'
          · exact i2'.2.1
          · split at i2'
            · exact i2'.2.1
            · exact i2'.2.1
        have := row2_len hc.2 bc
        simp only [hdL2]; omega
    have eL : lessW (wsOf l1) (wsOf (row2L b)) = lessW (wsOf hr.1) (wsOf b.1) := by rw [i5, wsOf_row2 hb.1]
    have eE : equalW (wsOf l1) (wsOf (row2L b)) = equalW (wsOf hr.1) (wsOf b.1) := by rw [i5, wsOf_row2 hb.1]
    have eH : lessW (wsOf l1) (wsOf (hdL2 r)) = lessH hr.1 r := by rw [i5]; exact lessH_hd hrr
    have eB : lessW (wsOf (row2L b)) (wsOf (hdL2 r)) = lessH b.1 r := by rw [wsOf_row2 hb.1]; exact lessH_hd hrr
    simp only [List.length_cons] at i4
    rw [wk] at i1
    rw [if_pos (by simpa [hdL2] using row2_dot hb.1)]
    rw [tl2_hd]
    dsimp only [hdL2]
    walk_at "G"
    walk_at "call"
    walk_at "G"
    refine gm_inst (f := 122) (by walk_at "mem") (by walk_at "mem") (by walk_at "kis") (by walk_at "kis") (by walk_at "kis") (by rfl) ?_
    walk_at "cwK"
    walk_at "G"
    refine (gettP (by rw [tl2_len]; omega) ?_).cl
    walk_at "G"
    walk_at "call"
    walk_at "F"
    walk_at "cwK"
    walk_at "G"
    refine (wsNew hlr fun z dz tz cz => ?_).cl
    walk_at "N"
    refine ex_cons ?_
    refine x_if ?_
    let ZZ : NS := WsB 83 z dz tz cz (hdL2 r) ++ LxB 132 a K (tlQ2 r pushed) cs (WsB 83 x dx tt ct l1 ++ (WsB 83 y dy ty cy (row2L b) ++ ns))
    have hok : ∀ (q : Row2), bl q.1 = true → q.1.length ≤ 20 → Rows2Ok (q :: r) := fun q h1 h2 y hy => by
      rcases List.mem_cons.mp hy with rfl | hy
      · exact ⟨h1, h2⟩
      · exact hrr y hy
    refine Bl.mono (Q := fun c m => c = mulC hr b r ∧ m = ZZ) ?_ (fun c m hcm => ?_)
    · refine tt_and ?_
      refine tt_val ?_
      walk_at "call"
      walk_at "G"
      refine gm_inst (f := 73) (by walk_at "mem") (by walk_at "mem") (by walk_at "kis") (by walk_at "kis") (by walk_at "kis") (by rfl) ?_
      walk_at "cwK"
      walk_at "G"
      refine (lessC (l := l1) (l2 := row2L b) (x := x) (dx := dx) (t := tt) (ct := ct) (x2 := y) (dx2 := dy) (t2 := ty) (ct2 := cy) ⟨by walk_at "mem", by walk_at "mem", by walk_at "mem", by walk_at "mem"⟩ ⟨by walk_at "mem", by walk_at "mem", by walk_at "mem", by walk_at "mem"⟩ (by omega) (by omega) ?_).cl
      walk_at "G"
      rw [eL]
      unfold mulC
      cases hL : lessW (wsOf hr.1) (wsOf b.1) with
      | false => rw [if_neg Bool.false_ne_true]; exact ⟨rfl, rfl⟩
      | true =>
        rw [if_pos rfl]
        refine tt_not ?_
        refine tt_val ?_
        walk_at "call"
        walk_at "G"
        refine gm_inst (f := 73) (by walk_at "mem") (by walk_at "mem") (by walk_at "kis") (by walk_at "kis") (by walk_at "kis") (by rfl) ?_
        walk_at "cwK"
        walk_at "G"
        refine (lessC (l := l1) (l2 := hdL2 r) (x := x) (dx := dx) (t := tt) (ct := ct) (x2 := z) (dx2 := dz) (t2 := tz) (ct2 := cz) ⟨by walk_at "mem", by walk_at "mem", by walk_at "mem", by walk_at "mem"⟩ ⟨by walk_at "mem", by walk_at "mem", by walk_at "mem", by walk_at "mem"⟩ (by omega) (by omega) ?_).cl
        walk_at "G"
        rw [eH]
        exact ⟨rfl, rfl⟩
    obtain ⟨rfl, rfl⟩ := hcm
    by_cases hm : mulC hr b r = true
    · rw [if_pos hm] at i1 i2' ⊢
      have j1 := i1
      have j2 := i2'
      have bw : (hr.2 * b.2).natAbs < BB := by cases r with | nil => exact j2 | cons c r => exact j2.1
      have hrows := hok (hr.1, hr.2 * b.2) hh.1 hh.2
      walk_at "G"
      walk_at "call"
      walk_at "F"
      walk_at "cwK"
      walk_at "G"
      walk_at "own"
      walk_at "G"
      refine sl_str (lo := some ((wsOf l1).n : Int)) (hi := none) (by rw [sx_len, sizeLine_eq]; omega) ?_
      rw [tx_drop hn1, hd1]
      walk_at "G"
      refine (value2 bh ?_).cl
      walk_at "G"
      walk_at "call"
      walk_at "F"
      walk_at "cwK"
      walk_at "G"
      walk_at "own"
      walk_at "G"
      refine sl_str (lo := some ((wsOf (row2L b)).n : Int)) (hi := none) (by rw [sx_len, sizeLine_eq]; omega) ?_
      rw [tx_drop hn2, hd2]
      walk_at "G"
      refine (value2 bb ?_).cl
      refine bin_mul_int (.of_le (m := 240) (n := 240) (intBits_le_iff.mpr (Nat.lt_of_lt_of_le bh (by decide))) (intBits_le_iff.mpr (Nat.lt_of_lt_of_le bb (by decide))) (by decide)) ?_
      walk_at "G"
      walk_at "own"
      walk_at "G"
      refine sl_str (lo := none) (hi := some ((wsOf l1).n : Int)) (by rw [sx_len, sizeLine_eq]; omega) ?_
      rw [tx_take hn1, ht1]
      walk_at "G"
      walk_at "call"
      walk_at "F"
      walk_at "cwK"
      walk_at "G"
      refine (word2 bw ?_).cl
      refine bin_add_str (by rw [sx_len, sx_len, sizeLine_eq]; have := numL_len bw; omega) ?_
      rw [sx_app]
      walk_at "G"
      refine x_swap (by walk_at "env") (by rfl) (by rfl) ?_
      refine ev_tup (by rfl) (by rfl) ?_
      walk_at "G"
      refine ⟨of_decide_eq_true rfl, fun t0 => ⟨t0, _, _, rfl, .head _, ?_⟩⟩
      walk_at "G"
      exact wl_st (by walk_at "ls") (by walk_at "pk") (ih (((hr.1, hr.2 * b.2), r, pushed, l1), (x, dx, tt, ct), (z, dz, tz, cz)) (by simp) ⟨j1, j2, hrows, by dsimp only; omega, i5, i6⟩)
    rw [if_neg hm] at i1 i2' ⊢
    refine ex_cons ?_
    refine x_if ?_
    refine Bl.mono (Q := fun c m => c = addC hr b r ∧ m = ZZ) ?_ (fun c m hcm => ?_)
    · refine tt_and ?_
      refine tt_val ?_
      walk_at "call"
      walk_at "G"
      refine gm_inst (f := 59) (by walk_at "mem") (by walk_at "mem") (by walk_at "kis") (by walk_at "kis") (by walk_at "kis") (by rfl) ?_
      walk_at "cwK"
      walk_at "G"
      refine (equalC (l := l1) (l2 := row2L b) (x := x) (dx := dx) (t := tt) (ct := ct) (x2 := y) (dx2 := dy) (t2 := ty) (ct2 := cy) ⟨by walk_at "mem", by walk_at "mem", by walk_at "mem", by walk_at "mem"⟩ ⟨by walk_at "mem", by walk_at "mem", by walk_at "mem", by walk_at "mem"⟩ (by omega) (by omega) ?_).cl
      walk_at "G"
      rw [eE]
      unfold addC
      cases hE : equalW (wsOf hr.1) (wsOf b.1) with
      | false => rw [if_neg Bool.false_ne_true]; exact ⟨rfl, rfl⟩
      | true =>
        rw [if_pos rfl]
        refine tt_not ?_
        refine tt_val ?_
        walk_at "call"
        walk_at "G"
        refine gm_inst (f := 73) (by walk_at "mem") (by walk_at "mem") (by walk_at "kis") (by walk_at "kis") (by walk_at "kis") (by rfl) ?_
        walk_at "cwK"
        walk_at "G"
        refine (lessC (l := row2L b) (l2 := hdL2 r) (x := y) (dx := dy) (t := ty) (ct := cy) (x2 := z) (dx2 := dz) (t2 := tz) (ct2 := cz) ⟨by walk_at "mem", by walk_at "mem", by walk_at "mem", by walk_at "mem"⟩ ⟨by walk_at "mem", by walk_at "mem", by walk_at "mem", by walk_at "mem"⟩ (by omega) (by omega) ?_).cl
        walk_at "G"
        rw [eB]
        exact ⟨rfl, rfl⟩
    obtain ⟨rfl, rfl⟩ := hcm
    by_cases ha : addC hr b r = true
    · rw [if_pos ha] at i1 i2' ⊢
      have j1 := i1
      have j2 := i2'
      have bw : (hr.2 + b.2).natAbs < BB := by cases r with | nil => exact j2 | cons c r => exact j2.1
      have hrows := hok (hr.1, hr.2 + b.2) hh.1 hh.2
      walk_at "G"
      walk_at "call"
      walk_at "F"
      walk_at "cwK"
      walk_at "G"
      walk_at "own"
      walk_at "G"
      refine sl_str (lo := some ((wsOf l1).n : Int)) (hi := none) (by rw [sx_len, sizeLine_eq]; omega) ?_
      rw [tx_drop hn1, hd1]
      walk_at "G"
      refine (value2 bh ?_).cl
      walk_at "G"
      walk_at "call"
      walk_at "F"
      walk_at "cwK"
      walk_at "G"
      walk_at "own"
      walk_at "G"
      refine sl_str (lo := some ((wsOf (row2L b)).n : Int)) (hi := none) (by rw [sx_len, sizeLine_eq]; omega) ?_
      rw [tx_drop hn2, hd2]
      walk_at "G"
      refine (value2 bb ?_).cl
      walk_at "G"
      walk_at "G"
      walk_at "own"
      walk_at "G"
      refine sl_str (lo := none) (hi := some ((wsOf l1).n : Int)) (by rw [sx_len, sizeLine_eq]; omega) ?_
      rw [tx_take hn1, ht1]
      walk_at "G"
      walk_at "call"
      walk_at "F"
      walk_at "cwK"
      walk_at "G"
      refine (word2 bw ?_).cl
      refine bin_add_str (by rw [sx_len, sx_len, sizeLine_eq]; have := numL_len bw; omega) ?_
      rw [sx_app]
      walk_at "G"
      refine x_swap (by walk_at "env") (by rfl) (by rfl) ?_
      refine ev_tup (by rfl) (by rfl) ?_
      walk_at "G"
      refine ⟨of_decide_eq_true rfl, fun t0 => ⟨t0, _, _, rfl, .head _, ?_⟩⟩
      walk_at "G"
      exact wl_st (by walk_at "ls") (by walk_at "pk") (ih (((hr.1, hr.2 + b.2), r, pushed, l1), (x, dx, tt, ct), (z, dz, tz, cz)) (by simp) ⟨j1, j2, hrows, by dsimp only; omega, i5, i6⟩)
    rw [if_neg ha] at i1 i2' ⊢
    walk_at "G"
    walk_at "call"
    walk_at "G"
    refine gm_inst (f := 129) (by walk_at "mem") (by walk_at "mem") (by walk_at "kis") (by walk_at "kis") (by walk_at "kis") (by rfl) ?_
    walk_at "cwK"
    walk_at "G"
    refine (Cd.pk (ns' := LxB 132 a K (tlQ2 r pushed) cs (WsB 83 y dy ty cy (row2L b) ++ (WsB 83 z dz tz cz (hdL2 r) ++ ns))) (by walk_at "pk") (pushC (by rw [tl2_len]; omega) ?_)).cl
    rw [tl2_snoc]
    walk_at "G"
    refine x_swap (by walk_at "env") (by rfl) (by rfl) ?_
    refine ev_tup (by rfl) (by rfl) ?_
    walk_at "G"
    refine ⟨of_decide_eq_true rfl, fun t0 => ⟨t0, _, _, rfl, .head _, ?_⟩⟩
    walk_at "G"
    refine x_swap (by walk_at "env") (by rfl) (by rfl) ?_
    refine ev_tup (by rfl) (by rfl) ?_
    walk_at "G"
    refine ⟨of_decide_eq_true rfl, fun t1 => ⟨t1, _, _, rfl, .head _, ?_⟩⟩
    walk_at "G"
    exact wl_st (by walk_at "ls") (by walk_at "pk") (ih ((b, r, pushed ++ [hr], row2L b), (y, dy, ty, cy), (z, dz, tz, cz)) (by simp) ⟨by rw [List.append_assoc]; exact i1, i2', hok b hb.1 hb.2, by dsimp only; rw [List.length_append, List.length_singleton]; omega, wsOf_row2 hb.1, by dsimp only; omega⟩)
theorem textC2 {w : World} {n : Nat} {L : Addr} {ls : LS} {ns ns1 : NS} {a e : Addr} {ns2 : NS} {rows : List (List Nat × Nat)} {Q : Value → NS → Prop} (hs : Sel a (.list (rows.map fun q => Mine.S (sx q.1))) ns ns1) (hs2 : Sel e (.list (rows.map fun q => I (q.2 : Int))) ns1 ns2) (hz : ∀ z ∈ rows, z.1.length ≤ 100) (hl : rows.length ≤ 15)
    (h : Q (Mine.S (sx (textG rows))) ns) : Cd (C2 w) (n + 1) L ls ns (.ref 193) [.ref a, .ref e] Q := by
  walk_at "def"
  walk_at "G"
  walk_at "for"
  walk_at "call"
  walk_at "B zip"
  walk_at "G"
  refine cl_zip (vs := rows.map fun q => Mine.S (sx q.1)) (ws := rows.map fun q => I (q.2 : Int)) (.list hs.mem) (.list (hs.perm.subset (.tail _ hs2.mem))) fun z TI TO i1 i2 o1 o2 ho1 ho2 => ?_
  refine itr_zip ho1 ho2 hs hs2 ?_
  have eZ : zipL (Str.ofString "row") (Str.ofString "heap") (rows.map fun q => Mine.S (sx q.1)) (rows.map fun q => I (q.2 : Int)) = rows.map fun q : List Nat × Nat => [(Str.ofString "heap", I (q.2 : Int)), (Str.ofString "row", Mine.S (sx q.1))] := by
    unfold zipL
    rw [List.zip_map', List.map_map]; rfl
  rw [eZ]
  refine fl_st (ls' := [(Str.ofString "text", Mine.S (sx []))]) (by walk_at "ls") .refl
    (fl_list (α := List Nat) _ (fun b r => b ++ textG r = textG rows ∧ (∀ z ∈ r, z.1.length ≤ 100) ∧ b.length + 300 * r.length ≤ 4500)
      (fun b => [(Str.ofString "text", Mine.S (sx b))]) (fun _ => ns2) (fun b hI => ?nil) (fun b z r hI ih => ?cons) rows [] ⟨rfl, hz, by simp; omega⟩)
  case nil =>
    obtain ⟨h1, h2, h3⟩ := hI
    dsimp only [textG] at h1 h3 ⊢
    refine ex_perm (ns' := ns) ((hs2.perm.cons _).trans hs.perm).symm ?_
    walk_at "G"
    refine bin_add_str (y := sx [46, 10]) (by rw [sx_len, sx_len, sizeLine_eq]; simp <;> omega) ?_
    rw [sx_app, h1]
    walk_at "G"
    exact ⟨_, .refl _, h⟩
  case cons =>
    obtain ⟨zr, zh⟩ := z
    obtain ⟨h1, h2, h3⟩ := hI
    dsimp only [textG] at h1 h3 ih ⊢
    have hz1 := h2 _ (List.mem_cons_self)
    dsimp only at hz1
    simp only [List.length_cons] at h3
    have e32 : ((zh : Int).fdiv 32).fmod 2 = ((zh / 32 % 2 : Nat) : Int) := by rw [Int.fdiv_eq_ediv_of_nonneg _ (by decide), Int.fmod_eq_emod_of_nonneg _ (by decide)]; rfl
    have e128 : ((zh : Int).fdiv 128).fmod 4 = ((zh / 128 % 4 : Nat) : Int) := by rw [Int.fdiv_eq_ediv_of_nonneg _ (by decide), Int.fmod_eq_emod_of_nonneg _ (by decide)]; rfl
    refine fl_cons (by walk_at "env") (by exact ⟨rfl, rfl⟩) ?_
    walk_at "G"
    refine bin_div_int (by decide) (pylong_small (by decide)) ?_
    walk_at "G"
    rw [e32]
    have hb : Txt.item (Str.ofString " \t\r\n") ((zh / 128 % 4 : Nat) : Int) = sx [blankOf (zh / 128)] := by
      unfold blankOf
      rcases (by omega : zh / 128 % 4 = 0 ∨ zh / 128 % 4 = 1 ∨ zh / 128 % 4 = 2 ∨ zh / 128 % 4 = 3) with e | e | e | e <;> rw [e] <;> decide +kernel
    by_cases h0 : zh / 32 % 2 = 0
    · rw [if_pos h0] at h1
      rw [if_pos (by rw [h0]; rfl)]
      walk_at "G"
      refine x_aug (by walk_at "env") (by rfl) (by rfl) ?_
      walk_at "G"
      refine bin_add_str (x := sx [34]) (by rw [sx_len, sx_len, sizeLine_eq]; simp <;> omega) ?_
      rw [sx_app]
      walk_at "G"
      refine bin_add_str (y := sx [34]) (by rw [sx_len, sx_len, sizeLine_eq]; simp <;> omega) ?_
      rw [sx_app]
      walk_at "G"
      refine ip_add_str (by rw [sx_len, sx_len, sizeLine_eq]; simp <;> omega) ?_
      rw [sx_app]
      walk_at "G"
      refine x_aug (by walk_at "env") (by rfl) (by rfl) ?_
      walk_at "G"
      refine bin_div_int (by decide) (pylong_small (by decide)) ?_
      walk_at "G"
      rw [e128]
      refine sb_str (by omega) (by show ((zh / 128 % 4 : Nat) : Int) < 4; omega) (by decide) ?_ (by intros; rfl) (by intros; rfl)
      rw [hb]
      refine ip_add_str (by rw [sx_len, sx_len, sizeLine_eq]; simp <;> omega) ?_
      rw [sx_app]
      walk_at "G"
      exact fl_st (by walk_at "ls") (by walk_at "pk") (ih _ ⟨by rw [← h1]; simp, fun y hy => h2 y (.tail _ hy), by (try dsimp only); simp <;> omega⟩)
    · rw [if_neg h0] at h1
      rw [if_neg (by simp; omega)]
      walk_at "G"
      refine x_aug (by walk_at "env") (by rfl) (by rfl) ?_
      walk_at "call"
      walk_at "G"
      refine gm_str PySem.F.slot_str_join PySem.F.type_str_join ?_
      walk_at "G"
      refine ev_comp (by rfl) (by decide) (by rfl) (by decide) ?_
      walk_at "G"
      refine itr_str ?_
      rw [signs_sx]
      intro Cn
      refine ml_list _ (fun ys r => ys ++ r.map (fun c => Mine.S (sx (if c = 32 ∨ c = 9 then [92, c] else [c]))) = zr.map (fun c => Mine.S (sx (if c = 32 ∨ c = 9 then [92, c] else [c])))) (fun ys hI => ?nil) (fun ys c r hI ih3 => ?cons) zr [] rfl
      case cons =>
        have hlen := congrArg List.length hI
        simp only [List.length_append, List.length_map, List.length_cons] at hlen
        refine ml_cons (by walk_at "env") (by rfl) (by rw [sizeLine_eq]; omega) ?_
        walk_at "G"
        rw [show Str.ofString " \t" = sx [32, 9] from rfl, in_one]
        by_cases hc : c = 32 ∨ c = 9
        · rw [if_pos (by simpa using hc)]
          walk_at "G"
          refine bin_add_str (x := sx [92]) (by rw [sx_len, sx_len, sizeLine_eq]; exact of_decide_eq_true rfl) ?_
          rw [sx_app]
          exact ih3 _ (by rw [← hI]; simp [hc])
        · rw [if_neg (by simpa using hc)]
          walk_at "G"
          exact ih3 _ (by rw [← hI]; simp [hc])
      case nil =>
        rw [List.map_nil, List.append_nil] at hI
        subst hI
        intro D
        walk_at "G"
        have hes := escL_len zr
        have e9 : (zr.map fun c => Mine.S (sx (if c = 32 ∨ c = 9 then [92, c] else [c]))) = ((zr.map fun c => if c = 32 ∨ c = 9 then [92, c] else [c]).map sx).map Mine.S := by rw [List.map_map, List.map_map]; rfl
        have hsum : (((zr.map fun c => if c = 32 ∨ c = 9 then [92, c] else [c]).map sx).map fun y => y.length).sum ≤ 200 := by
          have := sum_le (ys := (zr.map fun c => if c = 32 ∨ c = 9 then [92, c] else [c]).map sx) (b := 2) (fun y hy => by
            obtain ⟨u, hu, rfl⟩ := List.mem_map.mp hy
            obtain ⟨c, _, rfl⟩ := List.mem_map.mp hu
            rw [sx_len]; exact esc_two c)
          rw [List.length_map, List.length_map] at this
          omega
        refine cl_join (x := ⟨#[]⟩) (ys := (zr.map fun c => if c = 32 ∨ c = 9 then [92, c] else [c]).map sx) (.list (by rw [← e9]; walk_at "mem")) (by decide) (by rw [List.length_map, List.length_map]; omega) ?_
        rw [glued_nil]
        have e10 : (zr.map fun c => if c = 32 ∨ c = 9 then [92, c] else [c]).flatten = escL zr := rfl
        rw [e10]
        walk_at "G"
        refine ip_add_str (by rw [sx_len, sx_len, sizeLine_eq]; (try simp only [List.length_append, List.length_cons, List.length_nil]); omega) ?_
        rw [sx_app]
        walk_at "G"
        refine x_aug (by walk_at "env") (by rfl) (by rfl) ?_
        walk_at "G"
        refine bin_div_int (by decide) (pylong_small (by decide)) ?_
        walk_at "G"
        rw [e128]
        refine sb_str (by omega) (by show ((zh / 128 % 4 : Nat) : Int) < 4; omega) (by decide) ?_ (by intros; rfl) (by intros; rfl)
        rw [hb]
        refine ip_add_str (by rw [sx_len, sx_len, sizeLine_eq]; (try simp only [List.length_append, List.length_cons, List.length_nil]); omega) ?_
        rw [sx_app]
        walk_at "G"
        exact fl_st (by walk_at "ls") (by walk_at "pk") (ih _ ⟨by rw [← h1]; simp, fun y hy => h2 y (.tail _ hy), by (try dsimp only); (try simp only [List.length_append, List.length_cons, List.length_nil]); omega⟩)
theorem x1_mono {C : Cx} {n : Nat} {env : Env} {ls : LS} {ns : NS} {b : Stmt} {Q Q' : Flow → LS → NS → Prop} (h : Ex1 C n env ls ns b Q') (k : ∀ f l m, Q' f l m → Q f l m) : Ex1 C n env ls ns b Q := T.mono h fun _ l m x => k _ l m x
theorem above_lastV (s : Cde) : ((aboveOf s).map fun l => Mine.S (sx l))[((-1 : Int) + (((aboveOf s).map fun l => Mine.S (sx l)).length : Int)).toNat]? = some (Mine.S (sx (decC s))) := by
  rw [List.length_map, above_len, show ((-1 : Int) + ((s.2.length + 1 : Nat) : Int)).toNat = s.2.length from by omega, List.getElem?_map, above_last]; rfl
theorem leadsC2 {w : World} {n : Nat} {L : Addr} {ls : LS} {ns ns1 : NS} {a e : Addr} {ns2 : NS} {h0 : Nat} {rs : List (Nat × Nat)} {Q : Value → NS → Prop} (hs : Sel a (.list (((0, h0) :: rs).map fun q => I (q.1 : Int))) ns ns1) (hs2 : Sel e (.list (((0, h0) :: rs).map fun q => I (q.2 : Int))) ns1 ns2) (hv : validL 0 (((0, h0) :: rs).map (·.1))) (hl : rs.length ≤ 10)
    (h : ∀ t, Q (.ref t) ((t, .list ((leadsG (h0 + 9, []) ((0, h0) :: rs)).map fun l => Mine.S (sx l))) :: ns)) : Cd (C2 w) (n + 2) L ls ns (.ref 162) [.ref a, .ref e] Q := by
  walk_at "def"
  walk_at "G"
  refine ev_list (by rfl) ?_
  walk_at "G"
  refine ⟨of_decide_eq_true rfl, fun tp => ?_⟩
  walk_at "G"
  refine sb_list (i := 0) (v := I (h0 : Int)) (vs := ((0, h0) :: rs).map fun q => I (q.2 : Int)) (.list (.tail _ (hs.perm.subset (.tail _ hs2.mem)))) (by decide) (by rw [List.length_map, List.length_cons, sizeLine_eq]; omega) (by rfl) ?_ (by intros; rfl)
  walk_at "G"
  refine ev_list (by rfl) ?_
  walk_at "G"
  refine ⟨of_decide_eq_true rfl, fun t => ?_⟩
  walk_at "G"
  refine ev_list (by rfl) ?_
  walk_at "G"
  refine ⟨of_decide_eq_true rfl, fun ab0 => ?_⟩
  walk_at "G"
  walk_at "for"
  walk_at "call"
  walk_at "B zip"
  walk_at "G"
  refine cl_zip (vs := ((0, h0) :: rs).map fun q => I (q.1 : Int)) (ws := ((0, h0) :: rs).map fun q => I (q.2 : Int)) (.list (.tail _ (.tail _ (.tail _ hs.mem)))) (.list (.tail _ (.tail _ (.tail _ (hs.perm.subset (.tail _ hs2.mem)))))) fun z TI TO i1 i2 o1 o2 ho1 ho2 => ?_
  refine itr_zip ho1 ho2 (.tl (.tl (.tl hs))) (.tl (.tl (.tl hs2))) ?_
  have eZ : ∀ rows : List (Nat × Nat), zipL (Str.ofString "level") (Str.ofString "heap") (rows.map fun q => I (q.1 : Int)) (rows.map fun q => I (q.2 : Int)) = rows.map fun q : Nat × Nat => [(Str.ofString "heap", I (q.2 : Int)), (Str.ofString "level", I (q.1 : Int))] := fun rows => by
    unfold zipL
    rw [List.zip_map', List.map_map]; rfl
  rw [eZ]
  generalize hR : ((0, h0) :: rs : List (Nat × Nat)) = rows at *
  refine fl_st (ls' := [(Str.ofString "tops", .ref tp), (Str.ofString "turn", I ((h0 : Nat) : Int)), (Str.ofString "leads", .ref t), (Str.ofString "above", .ref ab0)]) (ns' := (ab0, .list []) :: (t, .list []) :: (tp, .list (topsL.map fun l => Mine.S (sx l))) :: ns2) (by walk_at "ls") (by walk_at "pk")
    (fl_list (α := Cde × List (List Nat) × Addr × List (List Nat)) _ (fun b r => okC b.1 ∧ 9 ≤ b.1.1 ∧ validL b.1.2.length (r.map (·.1)) ∧ b.2.1 ++ leadsG b.1 r = leadsG (h0 + 9, []) rows ∧ (b.2.2.2 = aboveOf b.1 ∨ (r.map (·.1)).head? = some 0) ∧ b.2.1.length + r.length ≤ 11)
      (fun b => [(Str.ofString "tops", .ref tp), (Str.ofString "turn", I ((b.1.1 - 9 : Nat) : Int)), (Str.ofString "leads", .ref t), (Str.ofString "above", .ref b.2.2.1)]) (fun b => (b.2.2.1, .list (b.2.2.2.map fun l => Mine.S (sx l))) :: (t, .list (b.2.1.map fun l => Mine.S (sx l))) :: (tp, .list (topsL.map fun l => Mine.S (sx l))) :: ns2) (fun b hI => ?nil) (fun b z r hI ih => ?cons) rows ((h0 + 9, []), [], ab0, []) ⟨⟨Nat.zero_le _, fun c hc => by cases hc⟩, Nat.le_add_left _ _, hv, rfl, .inr (by rw [← hR]; rfl), by rw [← hR]; simp; omega⟩)
  case nil =>
    obtain ⟨s, acc, ab, A⟩ := b
    have h4 := hI.2.2.2.1
    dsimp only at h4 ⊢
    rw [leadsG, List.append_nil] at h4
    subst h4
    refine ex_perm (ns' := (ab, .list (A.map fun l => Mine.S (sx l))) :: (t, .list ((leadsG (h0 + 9, []) rows).map fun l => Mine.S (sx l))) :: (tp, .list (topsL.map fun l => Mine.S (sx l))) :: ns) ?_ ?_
    · refine (((((hs2.perm.cons _).trans hs.perm).symm.cons _).cons _).cons _).trans ?_
      exact (List.perm_append_comm (l₁ := [(ab, PO.list (A.map fun l => Mine.S (sx l))), (t, .list ((leadsG (h0 + 9, []) rows).map fun l => Mine.S (sx l))), (tp, .list (topsL.map fun l => Mine.S (sx l)))]) (l₂ := [_, _])).append_right ns2
    walk_at "G"
    exact ⟨_, by walk_at "sub", h t⟩
  case cons =>
    obtain ⟨s, acc, ab, A⟩ := b
    obtain ⟨l, hp⟩ := z
    obtain ⟨i1, i2, i3, i4, i5, i6⟩ := hI
    dsimp only at i1 i2 i3 i4 i5 i6 ih ⊢
    rw [leadsG] at i4
    dsimp only at i4
    simp only [List.length_cons] at i6
    obtain ⟨v1, v2, v3⟩ := i3
    dsimp only at v1 v2 v3
    have hok := stepC_ok (r := (l, hp)) i1 v1 v2
    have hlen := stepC_len (s := s) (r := (l, hp)) v1
    have hs9 : 9 ≤ (stepC s (l, hp)).1 := by unfold stepC; split <;> dsimp only <;> omega
    have ho := (code_way hok).1
    have hos := (code_way i1).1
    have hk2 := ok_of hos 0
    refine fl_cons (by walk_at "env") (by exact ⟨rfl, rfl⟩) ?_
    refine ex_cons ?_
    refine x1_mono (Q' := fun f l' m => f = .next ∧ ∃ ab' A', List.take (l + 1) A' = aboveOf (stepC s (l, hp)) ∧ A'.length ≤ 5 ∧ Ls l' [(Str.ofString "tops", .ref tp), (Str.ofString "turn", I (((stepC s (l, hp)).1 - 9 : Nat) : Int)), (Str.ofString "leads", .ref t), (Str.ofString "above", .ref ab'), (Str.ofString "heap", I (hp : Int)), (Str.ofString "level", I (l : Int))] ∧ Pk m ((ab', .list (A'.map fun l => Mine.S (sx l))) :: (t, .list (acc.map fun l => Mine.S (sx l))) :: (tp, .list (topsL.map fun l => Mine.S (sx l))) :: ns2)) ?br ?rest
    case br =>
      walk_at "G"
      by_cases h0' : l = 0
      · subst h0'
        rw [if_pos (by rfl)]
        walk_at "G"
        refine ev_list (by rfl) ?_
        walk_at "G"
        have e10 : ((s.1 - 9 : Nat) : Int).fmod 10 = (((s.1 + 1) % 10 : Nat) : Int) := by rw [Int.fmod_eq_emod_of_nonneg _ (by decide)]; omega
        rw [e10]
        have hk10 : (s.1 + 1) % 10 < topsL.length := Nat.mod_lt _ (by decide)
        refine sb_list (i := (((s.1 + 1) % 10 : Nat) : Int)) (vs := topsL.map fun l => Mine.S (sx l)) (v := Mine.S (sx (topsL.getD ((s.1 + 1) % 10) []))) (.list (by walk_at "mem")) (by omega) (by rw [sizeLine_eq]; exact of_decide_eq_true rfl) (by
          rw [show (((s.1 + 1) % 10 : Nat) : Int).toNat = (s.1 + 1) % 10 from by omega, List.getElem?_map, List.getElem?_eq_getElem hk10]
          simp [List.getD, List.getElem?_eq_getElem hk10]) ?_ (by intros; rfl)
        walk_at "G"
        refine ⟨of_decide_eq_true rfl, fun ab' => ?_⟩
        walk_at "G"
        refine x_aug (by walk_at "env") (by rfl) (by rfl) ?_
        walk_at "G"
        have e11 : (((stepC s (0, hp)).1 - 9 : Nat) : Int) = ((s.1 - 9 : Nat) : Int) + 1 := by
          rw [stepC_top _ _ rfl]
          show ((s.1 + 1 - 9 : Nat) : Int) = _
          omega
        rw [e11, stepC_top _ _ rfl]
        exact ⟨rfl, ab', [topsL.getD ((s.1 + 1) % 10) []], rfl, by simp, by walk_at "ls", by walk_at "pk"⟩
      · rw [if_neg (by simpa using h0')]
        have hA : A = aboveOf s := by
          rcases i5 with q | q
          · exact q
          · simp at q; omega
        subst hA
        have hll := i1.1
        have hl20 : (decC s).length ≤ 20 := by
          have := hk2.2.2.1
          unfold shownH at this
          rwa [if_neg (by decide)] at this
        walk_at "G"
        walk_at "call"
        walk_at "B len"
        walk_at "G"
        refine cl_len (vs := (aboveOf s).map fun l => Mine.S (sx l)) (.list (by walk_at "mem")) (by rw [List.length_map, above_len, sizeLine_eq]; omega) ?_
        rw [List.length_map, above_len]
        walk_at "G"
        by_cases hpush : l = s.2.length + 1
        · rw [if_pos (by rw [hpush]; simp)]
          walk_at "G"
          refine sb_listR (i := -1) (vs := (aboveOf s).map fun l => Mine.S (sx l)) (v := Mine.S (sx (decC s))) (.list (by walk_at "mem")) (by decide) (by rw [List.length_map, above_len]; omega) (by rw [List.length_map, above_len, sizeLine_eq]; omega) (above_lastV s) ?_ (by intros; rfl)
          walk_at "G"
          walk_at "call"
          walk_at "G"
          refine gm_list (by walk_at "mem") slot_list_append PySem.F.type_list_append ?_
          walk_at "G"
          refine ev_list (by rfl) ?_
          walk_at "G"
          refine bin_add_str (y := sx [32]) (by rw [sx_len, sx_len, sizeLine_eq]; simp <;> omega) ?_
          rw [sx_app]
          walk_at "G"
          refine bin_add_str (y := sx [9]) (by rw [sx_len, sx_len, sizeLine_eq]; simp <;> omega) ?_
          rw [sx_app]
          walk_at "G"
          refine bin_add_str (x := sx [32, 9]) (by rw [sx_len, sx_len, sizeLine_eq]; simp <;> omega) ?_
          rw [sx_app]
          walk_at "G"
          refine bin_add_str (x := sx [9]) (by rw [sx_len, sx_len, sizeLine_eq]; simp <;> omega) ?_
          rw [sx_app]
          walk_at "G"
          refine bin_add_str (y := sx [32]) (by rw [sx_len, sx_len, sizeLine_eq]; simp <;> omega) ?_
          rw [sx_app]
          walk_at "G"
          refine ⟨of_decide_eq_true rfl, fun ex => ?_⟩
          walk_at "G"
          refine bin_div_int (by decide) (pylong_small (by decide)) ?_
          walk_at "G"
          have e4 : ((hp : Int).fdiv 4).fmod 4 = ((hp / 4 % 4 : Nat) : Int) := by rw [Int.fdiv_eq_ediv_of_nonneg _ (by decide), Int.fmod_eq_emod_of_nonneg _ (by decide)]; rfl
          rw [e4]
          have hc4 : hp / 4 % 4 < 4 := Nat.mod_lt _ (by decide)
          refine sb_list (i := ((hp / 4 % 4 : Nat) : Int)) (vs := [decC s ++ [32], decC s ++ [9], [32, 9] ++ decC s, [9] ++ decC s ++ [32]].map fun l => Mine.S (sx l)) (v := Mine.S (sx (extL (decC s) (hp / 4 % 4)))) (.list (by walk_at "mem")) (by omega) (by rw [sizeLine_eq]; exact of_decide_eq_true rfl) (by
            rw [show ((hp / 4 % 4 : Nat) : Int).toNat = hp / 4 % 4 from by omega]
            rcases (by omega : hp / 4 % 4 = 0 ∨ hp / 4 % 4 = 1 ∨ hp / 4 % 4 = 2 ∨ hp / 4 % 4 = 3) with q | q | q | q <;> rw [q] <;> rfl) ?_ (by intros; rfl)
          walk_at "G"
          refine cl_append (by walk_at "put") (by rw [List.length_map, above_len, sizeLine_eq]; omega) ?_
          walk_at "G"
          rw [stepC_push hpush]
          exact ⟨rfl, ab, aboveOf s ++ [extL (decC s) (hp / 4 % 4)], by rw [above_push]; exact List.take_of_length_le (by rw [List.length_append, above_len, List.length_singleton]; omega), by rw [List.length_append, above_len, List.length_singleton]; omega, by walk_at "ls", by rw [List.map_append, List.map_singleton]; walk_at "pk"⟩
        · rw [if_neg (by simp; omega)]
          walk_at "G"
          rw [stepC_cut h0' (by omega)]
          exact ⟨rfl, ab, aboveOf s, above_take s (by omega), by rw [above_len]; omega, by walk_at "ls", by walk_at "pk"⟩
    case rest =>
      rintro f l' m ⟨rfl, ab', A', e1, e2, hls, hpk⟩
      dsimp only
      refine ex_st hls hpk ?_
      generalize stepC s (l, hp) = s' at *
      walk_at "G"
      refine sl_list (lo := none) (hi := some ((l : Int) + 1)) (st := none) (vs := A'.map fun l => Mine.S (sx l)) (.list (by walk_at "mem")) (by decide) (by rw [List.length_map, sizeLine_eq]; omega) fun ab2 => ?_
      rw [show ((l : Int) + 1) = ((l + 1 : Nat) : Int) from rfl, tx_upto, ← List.map_take, e1]
      have hl5 : s'.2.length ≤ 3 := hok.1
      obtain ⟨w1, w2, w3, w4⟩ := ok_of ho hp
      have hl20 : (decC s').length ≤ 20 := by
        have := (ok_of ho 0).2.2.1
        unfold shownH at this
        rwa [if_neg (by decide)] at this
      walk_at "G"
      walk_at "call"
      walk_at "G"
      refine gm_list (by walk_at "mem") slot_list_append PySem.F.type_list_append ?_
      walk_at "G"
      refine bin_div_int (by decide) (pylong_small (by decide)) ?_
      walk_at "G"
      have e16 : ((hp : Int).fdiv 16).fmod 2 = ((hp / 16 % 2 : Nat) : Int) := by rw [Int.fdiv_eq_ediv_of_nonneg _ (by decide), Int.fmod_eq_emod_of_nonneg _ (by decide)]; rfl
      rw [e16]
      by_cases ht : hp / 16 % 2 = 1
      · rw [if_pos (by rw [ht]; rfl)]
        walk_at "call"
        walk_at "F"
        walk_at "cwK"
        walk_at "G"
        refine sb_listR (i := -1) (vs := (aboveOf s').map fun l => Mine.S (sx l)) (v := Mine.S (sx (decC s'))) (.list (by walk_at "mem")) (by decide) (by rw [List.length_map, above_len]; omega) (by rw [List.length_map, above_len, sizeLine_eq]; omega) (above_lastV s') ?_ (by intros; rfl)
        walk_at "G"
        obtain ⟨s1, s2, s3⟩ := split_ok (l := decC s') (by unfold okLead at ho; simp only [Bool.and_eq_true] at ho; exact ho.1.1.1.1.1.1)
        refine (turnC (by rw [sx_len]; omega) s1 s2 s3 ?_).cl
        rw [← sx_turnL]
        walk_at "G"
        refine cl_append (by walk_at "put") (by rw [List.length_map, sizeLine_eq]; omega) ?_
        walk_at "G"
        exact fl_st (by walk_at "ls") (by
          rw [show (acc.map fun l => Mine.S (sx l)) ++ [Mine.S (sx (turnL (decC s')))] = (acc ++ [shownH hp (decC s')]).map fun l => Mine.S (sx l) from by unfold shownH; rw [if_pos ht]; simp]
          walk_at "pk") (ih (s', acc ++ [shownH hp (decC s')], ab2, aboveOf s') ⟨hok, hs9, by dsimp only; rw [hlen]; exact v3, by dsimp only; rw [List.append_assoc]; exact i4, .inl rfl, by dsimp only; rw [List.length_append, List.length_singleton]; omega⟩)
      · rw [if_neg (by simp; omega)]
        walk_at "G"
        refine sb_listR (i := -1) (vs := (aboveOf s').map fun l => Mine.S (sx l)) (v := Mine.S (sx (decC s'))) (.list (by walk_at "mem")) (by decide) (by rw [List.length_map, above_len]; omega) (by rw [List.length_map, above_len, sizeLine_eq]; omega) (above_lastV s') ?_ (by intros; rfl)
        walk_at "G"
        refine cl_append (by walk_at "put") (by rw [List.length_map, sizeLine_eq]; omega) ?_
        walk_at "G"
        exact fl_st (by walk_at "ls") (by
          rw [show (acc.map fun l => Mine.S (sx l)) ++ [Mine.S (sx (decC s'))] = (acc ++ [shownH hp (decC s')]).map fun l => Mine.S (sx l) from by unfold shownH; rw [if_neg ht]; simp]
          walk_at "pk") (ih (s', acc ++ [shownH hp (decC s')], ab2, aboveOf s') ⟨hok, hs9, by dsimp only; rw [hlen]; exact v3, by dsimp only; rw [List.append_assoc]; exact i4, .inl rfl, by dsimp only; rw [List.length_append, List.length_singleton]; omega⟩)
theorem worthsC {w : World} {n : Nat} {L : Addr} {ls : LS} {ns : NS} {a e : Addr} {rows : List (Nat × Int)} {Q : Value → NS → Prop} (hm : HasL ns a (rows.map fun q => I (q.1 : Int))) (hm2 : HasL ns e (rows.map fun q => I q.2)) (hl : rows.length ≤ 6) (h3 : ∀ q ∈ rows, q.1 ≤ 3 ∧ q.2.natAbs ≤ 4096) (h0 : (rows.map (·.1)).head? = some 0)
    (h : ∀ t, Q (.ref t) ((t, .list ((wtF [] [] rows).map I)) :: ns)) : Cd (C2 w) (n + 5) L ls ns (.ref 214) [.ref a, .ref e] Q := by
  have hmm : ∀ {p : Addr × PO} {m : NS} {a : Addr} {vs : List Value}, HasL m a vs → HasL (p :: m) a vs := fun q => by cases q with | list q => exact .list (.tail _ q) | raw q z => exact .raw (.tail _ q) z
  walk_at "def"
  walk_at "G"
  refine ev_list (by rfl) ?_
  walk_at "G"
  refine ⟨of_decide_eq_true rfl, fun t => ?_⟩
  walk_at "G"
  refine ev_list (by rfl) ?_
  walk_at "G"
  refine ⟨of_decide_eq_true rfl, fun wa0 => ?_⟩
  walk_at "G"
  walk_at "for"
  walk_at "call"
  walk_at "B range"
  walk_at "G"
  walk_at "call"
  walk_at "B len"
  walk_at "G"
  refine cl_len (hmm (hmm hm)) (by rw [List.length_map, sizeLine_eq]; omega) ?_
  rw [List.length_map]
  walk_at "G"
  refine cl_range1 fun r t1 t2 t3 => ?_
  refine itr_range .hd (by omega) (by omega) ?_
  unfold rangeL
  rw [show ((rows.length : Int) - 0).toNat = rows.length from by omega, List.range_eq_range']
  refine fl_st (ls' := [(Str.ofString "levels", .ref a), (Str.ofString "numbers", .ref e), (Str.ofString "worths", .ref t), (Str.ofString "way", .ref wa0)]) (ns' := (wa0, .list []) :: (t, .list []) :: ns) (by walk_at "ls") (by walk_at "pk")
    (fl_list (α := Nat × List Int × Addr × List Int) _ (fun b q => q = List.range' b.1 (rows.length - b.1) ∧ b.1 ≤ rows.length ∧ wtF b.2.1 b.2.2.2 (rows.drop b.1) = wtF [] [] rows ∧ (b.2.1 ≠ [] ∨ b.1 = 0) ∧ (∀ v ∈ b.2.2.2, v.natAbs ≤ 4096) ∧ b.2.1.length ≤ b.1 ∧ b.2.2.2.length ≤ 4)
      (fun b => [(Str.ofString "levels", .ref a), (Str.ofString "numbers", .ref e), (Str.ofString "worths", .ref t), (Str.ofString "way", .ref b.2.2.1)]) (fun b => (b.2.2.1, .list (b.2.2.2.map I)) :: (t, .list (b.2.1.map I)) :: ns) (fun b hI => ?nil) (fun b k q hI ih => ?cons) _ (0, [], wa0, []) ⟨rfl, Nat.zero_le _, rfl, .inr rfl, fun v hv => by (dsimp only at hv; cases hv), Nat.le_refl _, Nat.zero_le _⟩)
  case nil =>
    obtain ⟨p, W, wa, way⟩ := b
    obtain ⟨i1, i2, i3, -⟩ := hI
    dsimp only at i1 i2 i3 ⊢
    have : rows.length - p = 0 := by have := congrArg List.length i1; simpa using this.symm
    rw [List.drop_of_length_le (by omega), wtF] at i3
    subst i3
    walk_at "G"
    exact ⟨_, by walk_at "sub", h t⟩
  case cons =>
    obtain ⟨p, W, wa, way⟩ := b
    obtain ⟨i1, i2, i3, i4, i5, i6, i7⟩ := hI
    dsimp only at i1 i2 i3 i4 i5 i6 i7 ih ⊢
    obtain ⟨m, hmn⟩ : ∃ m, rows.length - p = m + 1 := by
      rcases Nat.eq_zero_or_pos (rows.length - p) with q0 | q0
      · rw [q0] at i1; cases i1
      · exact ⟨rows.length - p - 1, by omega⟩
    rw [hmn, List.range'_succ, List.cons.injEq] at i1
    obtain ⟨rfl, i1⟩ := i1
    have hk : k < rows.length := by omega
    have hmem := List.getElem_mem hk
    rw [List.drop_eq_getElem_cons hk] at i3
    have hz := h3 _ hmem
    rcases hq : rows[k] with ⟨l, v⟩
    rw [hq] at i3 hz
    rw [wtF] at i3
    dsimp only at i3 hz
    obtain ⟨hl3, hv4⟩ := hz
    have g1 : (rows.map fun q : Nat × Int => I (q.1 : Int))[((0 : Int) + (k : Int)).toNat]? = some (I (l : Int)) := by
      rw [show ((0 : Int) + (k : Int)).toNat = k from by omega, List.getElem?_map, List.getElem?_eq_getElem hk, hq]; rfl
    have g2 : (rows.map fun q : Nat × Int => I q.2)[((0 : Int) + (k : Int)).toNat]? = some (I v) := by
      rw [show ((0 : Int) + (k : Int)).toNat = k from by omega, List.getElem?_map, List.getElem?_eq_getElem hk, hq]; rfl
    refine fl_cons (by walk_at "env") (by rfl) ?_
    refine ex_cons ?_
    refine x1_mono (Q' := fun f l' m => f = .next ∧ Ls l' [(Str.ofString "levels", .ref a), (Str.ofString "numbers", .ref e), (Str.ofString "worths", .ref t), (Str.ofString "way", .ref wa), (Str.ofString "place", I ((0 : Int) + (k : Int)))] ∧ Pk m ((wa, .list (way.map I)) :: (t, .list ((if l = 0 then W ++ [0] else W).map I)) :: ns)) ?br ?rest
    case br =>
      walk_at "G"
      refine sb_list (i := (0 : Int) + (k : Int)) (vs := rows.map fun q => I (q.1 : Int)) (v := I (l : Int)) (hmm (hmm hm)) (by omega) (by rw [List.length_map, sizeLine_eq]; omega) g1 ?_ (by intros; rfl)
      walk_at "G"
      by_cases hl0 : l = 0
      · subst hl0
        rw [if_pos (by rfl)]
        walk_at "G"
        walk_at "call"
        walk_at "G"
        refine gm_list (by walk_at "mem") slot_list_append PySem.F.type_list_append ?_
        walk_at "G"
        refine cl_append (by walk_at "put") (by rw [List.length_map, sizeLine_eq]; omega) ?_
        walk_at "G"
        rw [if_pos rfl, List.map_append]
        exact ⟨rfl, by walk_at "ls", by walk_at "pk"⟩
      · rw [if_neg (by simpa using hl0)]
        walk_at "G"
        rw [if_neg hl0]
        exact ⟨rfl, by walk_at "ls", by walk_at "pk"⟩
    case rest =>
      rintro f l' m0 ⟨rfl, hls, hpk⟩
      dsimp only
      refine ex_st hls hpk ?_
      have hW : (if l = 0 then W ++ [0] else W) ≠ [] ∧ (if l = 0 then W ++ [0] else W).length ≤ k + 1 := by
        split
        · exact ⟨by simp, by rw [List.length_append, List.length_singleton]; omega⟩
        · rename_i hl0
          refine ⟨?_, by omega⟩
          rcases i4 with q | q
          · exact q
          · subst q
            exfalso
            apply hl0
            rw [List.head?_map, List.head?_eq_getElem?, List.getElem?_eq_getElem hk, hq] at h0
            simpa using h0
      generalize (if l = 0 then W ++ [0] else W) = W1 at *
      have hway : ∀ x ∈ way.take l ++ [v], x.natAbs ≤ 4096 := fun x hx => by
        rcases List.mem_append.mp hx with q | q
        · exact i5 x (List.mem_of_mem_take q)
        · rw [List.mem_singleton.mp q]; exact hv4
      have hwl : (way.take l ++ [v]).length ≤ 4 := by rw [List.length_append, List.length_take, List.length_singleton]; omega
      walk_at "G"
      refine sb_list (i := (0 : Int) + (k : Int)) (vs := rows.map fun q => I (q.1 : Int)) (v := I (l : Int)) (hmm (hmm hm)) (by omega) (by rw [List.length_map, sizeLine_eq]; omega) g1 ?_ (by intros; rfl)
      walk_at "G"
      refine sl_list (lo := none) (hi := some (l : Int)) (st := none) (vs := way.map I) (.list (by walk_at "mem")) (by decide) (by rw [List.length_map, sizeLine_eq]; omega) fun s1 => ?_
      rw [tx_upto, ← List.map_take]
      walk_at "G"
      refine ev_list (by rfl) ?_
      walk_at "G"
      refine sb_list (i := (0 : Int) + (k : Int)) (vs := rows.map fun q => I q.2) (v := I v) (hmm (hmm (hmm hm2))) (by omega) (by rw [List.length_map, sizeLine_eq]; omega) g2 ?_ (by intros; rfl)
      walk_at "G"
      refine ⟨of_decide_eq_true rfl, fun s2 => ?_⟩
      refine bin_add_list (vs := (way.take l).map I) (ws := [I v]) (.list (by walk_at "mem")) (.list (by walk_at "mem")) (by rw [List.length_map, List.length_take, List.length_singleton, sizeLine_eq]; omega) fun wc => ?_
      rw [show (way.take l).map I ++ [I v] = (way.take l ++ [v]).map I from by rw [List.map_append]; rfl]
      generalize way.take l ++ [v] = way1 at *
      walk_at "G"
      refine sl_list (lo := some ((0 : Int) + (k : Int) + 1)) (hi := some ((0 : Int) + (k : Int) + 2)) (st := none) (vs := rows.map fun q => I (q.1 : Int)) (hmm (hmm (hmm (hmm (hmm hm))))) (by decide) (by rw [List.length_map, sizeLine_eq]; omega) fun s3 => ?_
      rw [show (0 : Int) + (k : Int) + 1 = ((k + 1 : Nat) : Int) from by omega, show (0 : Int) + (k : Int) + 2 = ((k + 2 : Nat) : Int) from by omega, tx_part, show k + 2 - (k + 1) = 1 from by omega]
      rw [show ((rows.map fun q : Nat × Int => I (q.1 : Int)).drop (k + 1)).take 1 = (((rows.drop (k + 1)).map (·.1)).take 1).map fun c : Nat => I (c : Int) from by rw [← List.map_drop, ← List.map_take, ← List.map_take, List.map_map]; rfl]
      walk_at "G"
      refine ev_list (by rfl) ?_
      walk_at "G"
      refine sb_list (i := (0 : Int) + (k : Int)) (vs := rows.map fun q => I (q.1 : Int)) (v := I (l : Int)) (hmm (hmm (hmm (hmm (hmm (hmm hm)))))) (by omega) (by rw [List.length_map, sizeLine_eq]; omega) g1 ?_ (by intros; rfl)
      walk_at "G"
      refine ⟨of_decide_eq_true rfl, fun s4 => ?_⟩
      refine cmp_ne_data (da := lvD (((rows.drop (k + 1)).map (·.1)).take 1)) (db := lvD [l + 1]) (by omega) (.list (.list (by walk_at "mem")) (rd_lv _)) (.list (.list (by walk_at "mem")) (rd_lv [l + 1])) (lv_shaped _) (lv_shaped _) ?_
      rw [eqv_lv, one_eq]
      walk_at "G"
      by_cases hd : ((rows.drop (k + 1)).map (·.1)).head? = some (l + 1)
      · rw [if_pos hd] at i3
        rw [if_neg (by simpa using hd)]
        walk_at "G"
        exact fl_st (by walk_at "ls") (by walk_at "pk") (ih (k + 1, W1, wc, way1) ⟨by dsimp only; rw [i1, show rows.length - (k + 1) = m from by omega], by dsimp only; omega, i3, .inl hW.1, hway, hW.2, hwl⟩)
      · rw [if_neg hd] at i3
        rw [if_pos (by simpa using hd)]
        walk_at "G"
        walk_at "for"
        refine itr_list (vs := way1.map I) (by walk_at "sel") ?_
        rw [List.map_map]
        refine fl_st (ls' := [(Str.ofString "levels", .ref a), (Str.ofString "numbers", .ref e), (Str.ofString "worths", .ref t), (Str.ofString "way", .ref wc), (Str.ofString "product", I 1)]) (ns' := (t, .list (W1.map I)) :: ns) (by walk_at "ls") (by walk_at "pk")
          (fl_list (α := Int) _ (fun b q => q.foldl (· * ·) b = prodI way1 ∧ ∀ x ∈ q, x.natAbs ≤ 4096) (fun b => [(Str.ofString "levels", .ref a), (Str.ofString "numbers", .ref e), (Str.ofString "worths", .ref t), (Str.ofString "way", .ref wc), (Str.ofString "product", I b)]) (fun _ => (t, .list (W1.map I)) :: ns) (fun b hJ => ?qn) (fun b x q hJ ih2 => ?qc) way1 1 ⟨rfl, hway⟩)
        case qc =>
          obtain ⟨j1, j2⟩ := hJ
          rw [List.foldl_cons] at j1
          refine fl_cons (by walk_at "env") (by rfl) ?_
          walk_at "G"
          refine bin_mul_int (.of_right (intBits_le_iff.mpr (Nat.lt_of_le_of_lt (j2 x List.mem_cons_self) (by decide)))) ?_
          walk_at "G"
          exact fl_st (by walk_at "ls") .refl (ih2 (b * x) ⟨j1, fun y hy => j2 y (List.mem_cons_of_mem _ hy)⟩)
        case qn =>
          have j1 := hJ.1
          rw [List.foldl_nil] at j1
          subst j1
          dsimp only
          walk_at "G"
          refine x_augSub ?_
          walk_at "G"
          refine op_getItemR (i := -1) (vs := W1.map I) (v := I (W1.getLastD 0)) (.list (by walk_at "mem")) (by decide) (by rw [List.length_map]; have := List.length_pos_iff.mpr hW.1; omega) (by rw [List.length_map, sizeLine_eq]; omega) (last_get hW.1) ?_
          walk_at "G"
          refine set_itemR2 (by walk_at "put") (by decide) (by rw [List.length_map]; have := List.length_pos_iff.mpr hW.1; omega) (by rw [List.length_map, sizeLine_eq]; omega) ?_
          rw [last_set hW.1]
          walk_at "G"
          have hal : (addLast W1 (prodI way1)).length = W1.length := by
            unfold addLast
            rw [List.length_append, List.length_dropLast, List.length_singleton]
            have := List.length_pos_iff.mpr hW.1; omega
          exact fl_st (by walk_at "ls") (by walk_at "pk") (ih (k + 1, addLast W1 (prodI way1), wc, way1) ⟨by dsimp only; rw [i1, show rows.length - (k + 1) = m from by omega], by dsimp only; omega, i3, .inl (by dsimp only; intro e0; rw [e0] at hal; have := List.length_pos_iff.mpr hW.1; simp at hal; omega), hway, by dsimp only; omega, hwl⟩)
theorem lookup_fn {K : Frag} {a : Addr} {name qual name' qual' : Str} {params params' : Arguments} {body body' : List Stmt} {scope scope' : Scope} {dV kV doc pm cdv ct oc dV' kV' doc' pm' cdv' ct' oc' : Value} {an od an' od' : Option Addr} {osl osl' : Array (Option Value)} {R : Prop}
    (h2 : K.lookup a = some ⟨oc', od', .func (fnOf name' qual' params' body' scope' dV' kV' doc' pm' an' cdv' ct'), osl'⟩) (ho : K.lookup a = some ⟨oc, od, .func (fnOf name qual params body scope dV kV doc pm an cdv ct), osl⟩) (k : qual = qual' → body = body' → scope = scope' → R) : R := by
  rw [h2] at ho
  injection ho with ho
  injection ho with _ _ ho _
  injection ho with ho
  injection ho with e1 e2 e3 e4 e5
  injection e4 with e4
  exact k e2.symm e4.symm e5.symm
theorem lawE2 {w : World} {n : Nat} {name qual : Str} {params : Arguments} {body : List Stmt} {scope : Scope} {dV kV doc pm cdv ct oc : Value} {an od : Option Addr} {osl : Array (Option Value)}
    (ho : (C2 w).K.lookup 219 = some ⟨oc, od, .func (fnOf name qual params body scope dV kV doc pm an cdv ct), osl⟩)
    {L sc c3 fa : Addr} {cd : Value} {vs : Array Value} {n0 : Nat} {xs : List Int} (hv : vs.toList.map er = xs.map I) (hx : xs.length ≤ 63) :
    Ex (C2 w) (n + 8) (envX qual scope L fa cd [(Str.ofString "lexer", c3)]) [(Str.ofString "script", .ref sc)]
      [(c3, .cell none), (195, .raw (tabObj #[])), (sc, .raw { cls := .type "list", data := .seq vs n0 })] body (fun f l m => f = .ret (.bool true) ∧ ∃ ps', (195, PO.raw (tabObj ps')) ∈ m ∧ (sc, PO.raw { cls := .type "list", data := .seq vs n0 }) ∈ m) := by
  refine' lookup_fn ?h2 ho ?h3
  case h2 => walk_at "kis"
  rintro rfl rfl rfl
  clear ho
  walk_at "G"
  walk_at "call"
  walk_at "F"
  walk_at "cwK"
  walk_at "G"
  refine (heapsC (xs := xs) (.raw (by walk_at "mem") hv) hx fun hp hs h6 hb => ?_).cl
  walk_at "G"
  walk_at "call"
  walk_at "F"
  walk_at "cwK"
  walk_at "G"
  refine (levelsC (hs := hs) (by walk_at "sel") (by omega) fun la => ?_).cl
  obtain ⟨h0, hs', rfl⟩ : ∃ a b, hs = a :: b := by
    cases hs with
    | nil => cases h6
    | cons a b => exact ⟨a, b, rfl⟩
  have hv0 := levels_valid (h0 :: hs')
  rw [levels_form] at hv0 ⊢
  have hll := lvR_len hs' 1
  generalize lvR 1 hs' = lv' at *
  have eRow : (0, h0) :: lv'.zip hs' = (0 :: lv').zip (h0 :: hs') := rfl
  simp only [List.length_cons] at h6
  have e1 : ((0 :: lv').zip (h0 :: hs')).map (·.1) = 0 :: lv' := List.map_fst_zip (by simp; omega)
  have e2 : ((0 :: lv').zip (h0 :: hs')).map (·.2) = h0 :: hs' := List.map_snd_zip (by simp; omega)
  have e1v : (((0, h0) :: lv'.zip hs').map fun q => I (q.1 : Int)) = (0 :: lv').map fun k : Nat => I (k : Int) := by
    rw [eRow]; conv => rhs; rw [← e1, List.map_map]
    rfl
  have e2v : (((0, h0) :: lv'.zip hs').map fun q => I (q.2 : Int)) = (h0 :: hs').map fun k : Nat => I (k : Int) := by
    rw [eRow]; conv => rhs; rw [← e2, List.map_map]
    rfl
  walk_at "G"
  walk_at "call"
  walk_at "F"
  walk_at "cwK"
  walk_at "G"
  refine (leadsC2 (h0 := h0) (rs := lv'.zip hs') (a := la) (e := hp) (by rw [e1v]; exact .hd) (by rw [e2v]; exact .hd) (by rw [eRow, e1]; exact hv0) (by rw [List.length_zip]; omega) fun ld => ?_).cl
  rw [eRow]
  have hD := lawD_of (h0 := h0) h6 hll hv0
  generalize leadsG (h0 + 9, []) ((0 :: lv').zip (h0 :: hs')) = LD at *
  generalize h0 :: hs' = HS at *
  generalize 0 :: lv' = LV at *
  clear e1 e2 e1v e2v eRow hv0 hll h6 hb
  walk_at "G"
  refine x_comp (cl := []) (by walk_at "env") (by rfl) (by decide) (by rfl) (by decide) (by rfl) ?_ (by rfl)
  walk_at "G"
  refine itr_list (vs := HS.map fun k : Nat => I (k : Int)) (by walk_at "sel") ?_
  intro Cn
  rw [List.map_map]
  refine ml_list _ (fun ys r => ys ++ r.map (fun k : Nat => I (numF k)) = HS.map (fun k : Nat => I (numF k))) (fun ys hI => ?qn) (fun ys i r hI ih => ?qc) _ [] rfl
  case qc =>
    have hlen := congrArg List.length hI
    simp only [List.length_append, List.length_map, List.length_cons, hD.hs] at hlen
    refine ml_cons (by walk_at "env") (by rfl) (by rw [sizeLine_eq]; omega) ?_
    walk_at "call"
    walk_at "F"
    walk_at "cwK"
    walk_at "G"
    refine (numberC ?_).cl
    exact ih _ (by rw [← hI, List.append_assoc]; rfl)
  case qn =>
    have hN : ys = (HS.map numF).map I := by
      rw [List.map_nil, List.append_nil] at hI
      rw [hI, List.map_map]; rfl
    subst hN
    clear hI
    generalize HS.map numF = NU at *
    intro Dn
    have hRl : (LD.zip NU).length = 6 := by rw [List.length_zip, hD.ld, hD.nu]; rfl
    have hRW : ∀ r ∈ LD.zip NU, bl r.1 = true ∧ r.1.length ≤ 20 ∧ r.1 ≠ [] ∧ r.2.natAbs < BB := fun r hr => by
      have a1 := hD.le r.1 (List.of_mem_zip hr).1
      have a2 := hD.n4 r.2 (List.of_mem_zip hr).2
      exact ⟨a1.1, a1.2.1, a1.2.2, Nat.lt_of_le_of_lt a2 (by decide)⟩
    walk_at "G"
    walk_at "call"
    walk_at "F"
    walk_at "cwK"
    walk_at "G"
    refine ev_comp (cl := []) (by rfl) (by decide) (by rfl) (by decide) ?_
    walk_at "call"
    walk_at "B zip"
    walk_at "G"
    refine cl_zip (vs := LD.map fun l => Mine.S (sx l)) (ws := NU.map I) (.list (by walk_at "mem")) (.list (by walk_at "mem")) fun z TI TO i1 i2 o1 o2 ho1 ho2 => ?_
    refine itr_zip ho1 ho2 (by walk_at "sel") (by walk_at "sel") ?_
    intro Cn2
    rw [zip_rows2]
    refine ml_list _ (fun ys r => ys ++ r.map (fun r : Row2 => Mine.S (sx (row2L r))) = (LD.zip NU).map (fun r : Row2 => Mine.S (sx (row2L r))) ∧ ∀ q ∈ r, q ∈ LD.zip NU) (fun ys hI => ?qn) (fun ys q r hI ih => ?qc) _ [] ⟨rfl, fun q hq => hq⟩
    case qc =>
      have hlen := congrArg List.length hI.1
      simp only [List.length_append, List.length_map, List.length_cons] at hlen
      have hq := hRW q (hI.2 q (.head _))
      refine ml_cons (by walk_at "env") (by exact ⟨rfl, rfl⟩) (by rw [sizeLine_eq]; omega) ?_
      walk_at "G"
      walk_at "call"
      walk_at "F"
      walk_at "cwK"
      walk_at "G"
      refine (word2 hq.2.2.2 ?_).cl
      have hw60 := numL_len hq.2.2.2
      refine bin_add_str (by rw [sx_len, sx_len, sizeLine_eq]; omega) ?_
      rw [sx_app]
      exact ih _ ⟨by rw [← hI.1, List.append_assoc]; rfl, fun j hj => hI.2 j (.tail _ hj)⟩
    case qn =>
      have hN : ys = ((LD.zip NU).map row2L).map fun l => Mine.S (sx l) := by
        have := hI.1
        rw [List.map_nil, List.append_nil] at this
        rw [this, List.map_map]; rfl
      subst hN
      clear hI
      intro Dt
      walk_at "G"
      have hlz : ((LD.zip NU).map row2L).length = HS.length := by rw [List.length_map, hRl, hD.hs]
      have hz100 : ∀ z ∈ ((LD.zip NU).map row2L).zip HS, z.1.length ≤ 100 := fun z hz => by
        obtain ⟨q, hq, e⟩ := List.mem_map.mp (List.of_mem_zip hz).1
        have := hRW q hq
        rw [← e]
        exact row2_len this.2.1 this.2.2.2
      have hzl : (((LD.zip NU).map row2L).zip HS).length = 6 := by rw [List.length_zip, List.length_map, hRl, hD.hs]; rfl
      refine (textC2 (rows := ((LD.zip NU).map row2L).zip HS) (by rw [fstV (fun l => Mine.S (sx l)) _ _ hlz]; exact .hd) (by rw [sndV (fun k : Nat => I (k : Int)) _ _ hlz]; walk_at "sel") hz100 (by omega) ?_).cl
      walk_at "G"
      refine ev_comp (cl := []) (by rfl) (by decide) (by rfl) (by decide) ?_
      walk_at "call"
      walk_at "B zip"
      walk_at "G"
      refine cl_zip (vs := LD.map fun l => Mine.S (sx l)) (ws := NU.map I) (.list (by walk_at "mem")) (.list (by walk_at "mem")) fun z TI TO i1 i2 o1 o2 ho1 ho2 => ?_
      refine itr_zip ho1 ho2 (by walk_at "sel") (by walk_at "sel") ?_
      intro Cn3
      rw [zip_rows2]
      refine ml_list _ (fun ys r => ys ++ r.map (fun r : Row2 => Mine.S (sx (row2L r))) = (LD.zip NU).map (fun r : Row2 => Mine.S (sx (row2L r))) ∧ ∀ q ∈ r, q ∈ LD.zip NU) (fun ys hI => ?qn) (fun ys q r hI ih => ?qc) _ [] ⟨rfl, fun q hq => hq⟩
      case qc =>
        have hlen := congrArg List.length hI.1
        simp only [List.length_append, List.length_map, List.length_cons] at hlen
        have hq := hRW q (hI.2 q (.head _))
        refine ml_cons (by walk_at "env") (by exact ⟨rfl, rfl⟩) (by rw [sizeLine_eq]; omega) ?_
        walk_at "G"
        walk_at "call"
        walk_at "F"
        walk_at "cwK"
        walk_at "G"
        refine (letters2 hq.2.2.2 ?_).cl
        have hw60 := numL_len hq.2.2.2
        refine bin_add_str (by rw [sx_len, sx_len, sizeLine_eq]; omega) ?_
        rw [sx_app]
        exact ih _ ⟨by rw [← hI.1, List.append_assoc]; rfl, fun j hj => hI.2 j (.tail _ hj)⟩
      case qn =>
        have hN : ys = ((LD.zip NU).map row2L).map fun l => Mine.S (sx l) := by
          have := hI.1
          rw [List.map_nil, List.append_nil] at this
          rw [this, List.map_map]; rfl
        subst hN
        clear hI
        intro Dr
        have hwk := hD.wk
        generalize LD.zip NU = RW at hRW hwk hRl hlz hz100 hzl ⊢
        walk_at "G"
        refine ev_list (by rfl) ?_
        walk_at "G"
        refine ⟨of_decide_eq_true rfl, fun Dd => ?_⟩
        refine bin_add_list (vs := (RW.map row2L).map fun l => Mine.S (sx l)) (ws := [Mine.S (sx [46])]) (.list (by walk_at "mem")) (.list (by walk_at "mem")) (by rw [List.length_map, List.length_map, sizeLine_eq, List.length_singleton]; omega) fun ra => ?_
        rw [show ((RW.map row2L).map fun l => Mine.S (sx l)) ++ [Mine.S (sx [46])] = (RW.map row2L ++ [[46]]).map fun l => Mine.S (sx l) from by simp]
        have eRS : (RW.map row2L ++ [[46]]).map (fun l => Mine.S (sx l)) = rowV2 RW ++ [Mine.S (sx [46])] := by
          rw [List.map_append, List.map_map]; rfl
        have hinv : RdInv2 (RW.map row2L ++ [[46]]) (textG ((RW.map row2L).zip HS), []) (RW.map row2L ++ [[46]]) :=
          ⟨rfl, .inl ⟨(RW.map row2L).zip HS, by rw [List.map_fst_zip (by omega)], .inl rfl, fun y hy => by
            obtain ⟨q, hq, e⟩ := List.mem_map.mp (List.of_mem_zip hy).1
            have h1 := hRW q hq
            have h2 := row2_ok (r := q) h1.1 h1.2.2.1
            rw [← e]
            exact ⟨h2.1, h2.2.1, row2_len h1.2.1 h1.2.2.2⟩, by omega⟩⟩
        have hRSl : (RW.map row2L ++ [[46]]).length = 7 := by simp [hRl]
        have hsmall : ∀ l ∈ RW.map row2L ++ [[46]], small l := fun l hl => by
          rcases List.mem_append.mp hl with q | q
          · obtain ⟨r, hr, rfl⟩ := List.mem_map.mp q
            exact row2_small (hRW r hr).1
          · rw [List.mem_singleton.mp q]; intro c hc; simp at hc; omega
        have htl := textG_len _ hz100
        generalize RW.map row2L ++ [[46]] = RS at hinv hRSl hsmall eRS ⊢
        generalize textG ((RW.map row2L).zip HS) = TX at hinv htl ⊢
        walk_at "G"
        walk_at "call"
        walk_at "F"
        walk_at "cwK"
        walk_at "G"
        let Z0 : NS := (la, .list (LV.map fun k : Nat => I (k : Int))) :: (ld, .list (LD.map fun l => Mine.S (sx l))) :: (Dn, .list (NU.map I)) :: (sc, .raw { cls := .type "list", data := .seq vs n0 }) :: []
        refine (Cd.pk (ns' := (195, .raw (tabObj #[])) :: (c3, .cell none) :: (ra, .list (RS.map fun l => Mine.S (sx l))) :: Z0) (by walk_at "pk") (lexC (ps := #[]) (by omega) trivial (by intro _; rfl) fun a ps' ha => ?_)).cl
        refine as_cell (c := c3) (by walk_at "env") (by rfl) (by rfl) (by walk_at "put") ?_
        walk_at "G"
        refine x_comp (cl := [(Str.ofString "lexer", c3)]) (by walk_at "env") (by rfl) (by decide) (by rfl) (by decide) (by rfl) ?_ (by rfl)
        walk_at "G"
        let Z1 : NS := (195, .raw (tabObj ps')) :: (c3, .cell (some (.ref a.x))) :: Z0
        refine itr_list (vs := RS.map fun l => Mine.S (sx l)) (ns' := LxB 132 a (1 + (nl TX : Int)) [] TX Z1) (by walk_at "sel") ?_
        intro Cn4
        rw [List.map_map]
        refine ml_gen (α := List Nat × List (List Nat)) (no := fun b => LxB 132 a (1 + (nl TX : Int)) [] b.1 Z1) (ya := fun b => b.2.map fun l => Mine.S (sx l)) (f := fun l : List Nat => [(Str.ofString "row", Mine.S (sx l))]) (Inv := RdInv2 RS) (nil := fun b hI => ?qn) (cons := fun b q r hI ih => ?qc) RS (TX, []) hinv
        case qc =>
          obtain ⟨hbl, cs', ht, hI'⟩ := rd2_step hI
          have hlen := congrArg List.length hI.1
          simp only [List.length_append, List.length_cons] at hlen
          refine ml_cons (by walk_at "env") (by rfl) (by rw [sizeLine_eq, List.length_map]; omega) ?_
          walk_at "call"
          refine ev_cell (by walk_at "env") (by rfl) (by rfl) (by walk_at "mem") ?_
          refine gm_inst (f := 122) (by walk_at "mem") (by walk_at "mem") (by walk_at "kis") (by walk_at "kis") (by walk_at "kis") (by rfl) ?_
          walk_at "cwK"
          walk_at "G"
          refine (gettT ha hbl ht ?_).cl
          have := ih _ hI'
          rw [List.map_append] at this
          exact this
        case qn =>
          obtain ⟨hys, hcs⟩ := rd2_end hI
          obtain ⟨bc, bz⟩ := b
          dsimp only at hys hcs ⊢
          rw [hys, hcs]
          clear hI hys hcs bc bz
          intro Dl
          walk_at "G"
          have hlay := (lay_list hsmall).1
          have hsh := shaped_list hsmall
          refine cmp_ne_data (da := listD RS) (db := listD RS) (by omega) (.list (.list (by walk_at "mem")) (rdA_strs RS)) (.list (.list (by walk_at "mem")) (rdA_strs RS)) hsh hsh ?_
          rw [eqv_self hlay]
          walk_at "G"
          rw [if_neg (by decide)]
          walk_at "G"
          refine ev_cell (by walk_at "env") (by rfl) (by rfl) (by walk_at "mem") ?_
          walk_at "own"
          walk_at "G"
          walk_at "call"
          walk_at "G"
          refine gm_str PySem.F.slot_str_count PySem.F.type_str_count ?_
          walk_at "G"
          refine cl_count ?_
          rw [show Str.ofString "\n" = sx [10] from rfl, nl_cnt]
          walk_at "G"
          rw [show ((1 + (nl TX : Int)) - (nl [] : Int) != 1 + (nl TX : Int)) = false from by simp [nl]]
          rw [if_neg Bool.false_ne_true]
          walk_at "G"
          walk_at "for"
          refine itr_list (vs := RS.map fun l => Mine.S (sx l)) (ns' := (ra, .list (RS.map fun l => Mine.S (sx l))) :: LxB 132 a (1 + (nl TX : Int)) [] [] Z1) (by walk_at "sel") ?_
          rw [List.map_map]
          refine fl_st (ls' := [(Str.ofString "levels", .ref la), (Str.ofString "leads", .ref ld), (Str.ofString "numbers", .ref Dn)]) (ns' := LxB 132 a (1 + (nl TX : Int)) [] [] Z1) (by walk_at "ls") (by walk_at "pk")
            (fl_list (α := List (List Nat)) (fun l : List Nat => [(Str.ofString "row", Mine.S (sx l))]) (fun b r => b ++ r = RS) (fun _ => [(Str.ofString "levels", .ref la), (Str.ofString "leads", .ref ld), (Str.ofString "numbers", .ref Dn)]) (fun b => LxB 132 a (1 + (nl TX : Int)) (b.map fun l => Mine.S (sx l)) [] Z1) (fun b hI => ?qn) (fun b c r hI ih => ?qc) RS [] rfl)
          case qc =>
            have hlen := congrArg List.length hI
            simp only [List.length_append, List.length_cons] at hlen
            refine fl_cons (by walk_at "env") (by rfl) ?_
            walk_at "G"
            walk_at "call"
            refine ev_cell (by walk_at "env") (by rfl) (by rfl) (by walk_at "mem") ?_
            refine gm_inst (f := 129) (by walk_at "mem") (by walk_at "mem") (by walk_at "kis") (by walk_at "kis") (by walk_at "kis") (by rfl) ?_
            walk_at "cwK"
            walk_at "G"
            refine (pushC (by rw [List.length_map]; omega) ?_).cl
            walk_at "G"
            have := ih (b ++ [c]) (by rw [← hI]; simp)
            rw [List.map_append] at this
            exact fl_st (by walk_at "ls") .refl this
          case qn =>
            rw [List.append_nil] at hI
            subst hI
            dsimp only
            rw [eRS]
            generalize 1 + (nl TX : Int) = KK
            walk_at "G"
            walk_at "for"
            refine sl_list (lo := some 1) (hi := none) (st := none) (vs := NU.map I) (.list (by walk_at "mem")) (by decide) (by rw [List.length_map, sizeLine_eq, hD.nu]; omega) fun s1 => ?_
            rw [show (1 : Int) = ((1 : Nat) : Int) from rfl, tx_from, ← List.map_drop]
            have hd5 : (NU.drop 1).length = 5 := by rw [List.length_drop, hD.nu]
            refine itr_list (vs := (NU.drop 1).map I) (by walk_at "sel") ?_
            rw [List.map_map]
            generalize NU.drop 1 = N5 at hd5 ⊢
            have fin3 : ∀ b, WkInv (dueR LV LD NU) 0 b → b = dueR LV LD NU ∧ Rows2Ok b ∧ b.length ≤ 6 ∧ ∀ r ∈ b, r.2.natAbs < BB := fun b h => ⟨h.2.2.2.2.1, h.2.1, h.2.2.2.1, h.2.2.2.2.2 rfl⟩
            refine fl_st (ls' := [(Str.ofString "levels", .ref la), (Str.ofString "leads", .ref ld), (Str.ofString "numbers", .ref Dn)]) (ns' := LxB 132 a KK (rowV2 RW ++ [Mine.S (sx [46])]) [] Z1) (by walk_at "ls") (by walk_at "pk")
              (fl_list (α := List Row2) _ (fun b r => WkInv (dueR LV LD NU) r.length b) (fun _ => [(Str.ofString "levels", .ref la), (Str.ofString "leads", .ref ld), (Str.ofString "numbers", .ref Dn)]) (fun b => LxB 132 a KK (rowV2 b ++ [Mine.S (sx [46])]) [] Z1) (fun b hI => ?qn) (fun b c r hI ih => ?qc) N5 RW (by rw [hd5]; exact hwk))
            case qc =>
              rw [List.length_cons] at hI
              have hrows := hI.2.1
              have hb6 := hI.2.2.2.1
              obtain ⟨r0, rs0, rfl⟩ : ∃ x y, b = x :: y := by
                cases b with
                | nil => have := hI.2.2.1; simp at this
                | cons x y => exact ⟨x, y, rfl⟩
              obtain ⟨hw1, hw2⟩ := wkInv_step hI
              rw [List.length_cons] at hb6
              refine fl_cons (by walk_at "env") (by rfl) ?_
              walk_at "G"
              walk_at "call"
              walk_at "F"
              walk_at "cwK"
              walk_at "G"
              refine ev_cell (by walk_at "env") (by rfl) (by rfl) (by walk_at "mem") ?_
              walk_at "G"
              refine (walkC hrows hw1 (by omega) ?_).cl
              walk_at "G"
              exact fl_st (by walk_at "ls") .refl (ih (wk r0 rs0) hw2)
            case qn =>
              obtain ⟨hbf, hbr, hb6, hbb⟩ := fin3 b hI
              subst hbf
              clear hI fin3
              dsimp only
              let Z3 : NS := (195, .raw (tabObj ps')) :: (c3, .cell (some (.ref a.x))) :: (sc, .raw { cls := .type "list", data := .seq vs n0 }) :: []
              refine ex_st (ls' := [(Str.ofString "levels", .ref la), (Str.ofString "leads", .ref ld), (Str.ofString "numbers", .ref Dn)]) (ns' := (la, .list (LV.map fun k : Nat => I (k : Int))) :: (ld, .list (LD.map fun l => Mine.S (sx l))) :: (Dn, .list (NU.map I)) :: LxB 132 a KK (rowV2 (dueR LV LD NU) ++ [Mine.S (sx [46])]) [] Z3) (by walk_at "ls") (by walk_at "pk") ?_
              walk_at "G"
              refine x_comp (cl := []) (by walk_at "env") (by rfl) (by decide) (by rfl) (by decide) (by rfl) ?_ (by rfl)
              walk_at "call"
              walk_at "B zip"
              walk_at "G"
              refine cl_zip (vs := LV.map fun k : Nat => I (k : Int)) (ws := LD.map fun l => Mine.S (sx l)) (.list (by walk_at "mem")) (.list (by walk_at "mem")) fun z TI TO i1 i2 o1 o2 ho1 ho2 => ?_
              refine itr_zip ho1 ho2 (by walk_at "sel") (by walk_at "sel") ?_
              intro Cn5
              rw [zip_tops]
              have hzl6 : (LV.zip LD).length = 6 := by rw [List.length_zip, hD.lv, hD.ld]; rfl
              refine ml_list _ (fun ys r => ys ++ ((r.filter fun q => q.1 == 0).map (·.2)).map (fun l => Mine.S (sx l)) = (((LV.zip LD).filter fun q => q.1 == 0).map (·.2)).map (fun l => Mine.S (sx l)) ∧ ys.length + r.length ≤ 6) (fun ys hI => ?qn) (fun ys q r hI ih => ?qc) _ [] ⟨rfl, by rw [hzl6]; decide⟩
              case qc =>
                obtain ⟨j1, j2⟩ := hI
                simp only [List.length_cons] at j2
                refine ml_if (by walk_at "env") (by exact ⟨rfl, rfl⟩) (by rw [sizeLine_eq]; omega) ?_
                walk_at "G"
                by_cases hq0 : q.1 = 0
                · rw [if_pos (by rw [hq0]; rfl)]
                  rw [List.filter_cons_of_pos (by rw [hq0]; rfl)] at j1
                  walk_at "G"
                  exact ih _ ⟨by rw [← j1, List.append_assoc]; rfl, by rw [List.length_append, List.length_singleton]; omega⟩
                · rw [if_neg (by simpa using hq0)]
                  rw [List.filter_cons_of_neg (by simpa using hq0)] at j1
                  exact ih _ ⟨j1, by omega⟩
              case qn =>
                have hN := hI.1
                rw [List.filter_nil, List.map_nil, List.map_nil, List.append_nil] at hN
                subst hN
                clear hI
                intro Dtp
                have htl6 : (((LV.zip LD).filter fun q => q.1 == 0).map (·.2)).length ≤ 6 := by
                  rw [List.length_map]
                  have := List.length_filter_le (fun q : Nat × List Nat => q.1 == 0) (LV.zip LD)
                  omega
                have hDR := dueR_eq LV LD NU
                generalize ((LV.zip LD).filter fun q => q.1 == 0).map (·.2) = TP at htl6 hDR ⊢
                walk_at "G"
                refine x_comp (cl := []) (by walk_at "env") (by rfl) (by decide) (by rfl) (by decide) (by rfl) ?_ (by rfl)
                walk_at "call"
                walk_at "B zip"
                walk_at "G"
                walk_at "call"
                walk_at "F"
                walk_at "cwK"
                walk_at "G"
                have hnl : LV.length = NU.length := by rw [hD.lv, hD.nu]
                refine (worthsC (rows := LV.zip NU) (by rw [fstV (fun k : Nat => I (k : Int)) _ _ hnl]; exact .list (by walk_at "mem")) (by rw [sndV I _ _ hnl]; exact .list (by walk_at "mem")) (by rw [List.length_zip, hD.lv, hD.nu]; decide) (fun q hq => ⟨hD.l3 _ (List.of_mem_zip hq).1, hD.n4 _ (List.of_mem_zip hq).2⟩) (by rw [List.map_fst_zip (by omega)]; exact hD.l0) fun wa => ?_).cl
                generalize wtF [] [] (LV.zip NU) = WT at hDR ⊢
                walk_at "G"
                refine cl_zip (vs := TP.map fun l => Mine.S (sx l)) (ws := WT.map I) (.list (by walk_at "mem")) (.list (by walk_at "mem")) fun z TI TO i1 i2 o1 o2 ho1 ho2 => ?_
                refine itr_zip ho1 ho2 (by walk_at "sel") (by walk_at "sel") ?_
                intro Cn6
                rw [zip_rows2, ← hDR]
                generalize dueR LV LD NU = FN at hbr hb6 hbb ⊢
                refine ml_list _ (fun ys r => ys ++ r.map (fun r : Row2 => Mine.S (sx (row2L r))) = FN.map (fun r : Row2 => Mine.S (sx (row2L r))) ∧ ∀ q ∈ r, q ∈ FN) (fun ys hI => ?qn) (fun ys q r hI ih => ?qc) _ [] ⟨rfl, fun q hq => hq⟩
                case qc =>
                  have hlen := congrArg List.length hI.1
                  simp only [List.length_append, List.length_map, List.length_cons] at hlen
                  have hq := hI.2 q (.head _)
                  have hw60 := numL_len (hbb q hq)
                  have hw20 := (hbr q hq).2
                  refine ml_cons (by walk_at "env") (by exact ⟨rfl, rfl⟩) (by rw [sizeLine_eq]; omega) ?_
                  walk_at "G"
                  walk_at "call"
                  walk_at "F"
                  walk_at "cwK"
                  walk_at "G"
                  refine (letters2 (hbb q hq) ?_).cl
                  refine bin_add_str (by rw [sx_len, sx_len, sizeLine_eq]; omega) ?_
                  rw [sx_app]
                  exact ih _ ⟨by rw [← hI.1, List.append_assoc]; rfl, fun j hj => hI.2 j (.tail _ hj)⟩
                case qn =>
                  have hN : ys = (FN.map row2L).map fun l => Mine.S (sx l) := by
                    have := hI.1
                    rw [List.map_nil, List.append_nil] at this
                    rw [this, List.map_map]; rfl
                  subst hN
                  clear hI
                  intro Du
                  walk_at "G"
                  refine x_aug (by walk_at "env") (by rfl) (by rfl) ?_
                  walk_at "G"
                  refine ev_list (by rfl) ?_
                  walk_at "G"
                  refine ⟨of_decide_eq_true rfl, fun s2 => ?_⟩
                  refine ip_add_list (vs := (FN.map row2L).map fun l => Mine.S (sx l)) (ws := [Mine.S (sx [46]), Mine.S (sx [])]) (by walk_at "put") (.list (by walk_at "mem")) (by rw [List.length_map, List.length_map, List.length_cons, List.length_singleton]; omega) ?_
                  rw [show ((FN.map row2L).map fun l => Mine.S (sx l)) ++ [Mine.S (sx [46]), Mine.S (sx [])] = (FN.map row2L ++ [[46], []]).map fun l => Mine.S (sx l) from by simp]
                  have hEnd : EndInv (FN.map row2L ++ [[46], []]) ([], FN.map row2L ++ [[46]]) (FN.map row2L ++ [[46], []]) := ⟨rfl, .inl (by simp)⟩
                  have eQ : rowV2 FN ++ [Mine.S (sx [46])] = (FN.map row2L ++ [[46]]).map fun l => Mine.S (sx l) := by
                    rw [List.map_append, List.map_map]; rfl
                  have hsm : ∀ l ∈ FN.map row2L ++ [[46], []], small l := fun l hl => by
                    rcases List.mem_append.mp hl with q | q
                    · obtain ⟨r, hr, rfl⟩ := List.mem_map.mp q
                      exact row2_small (hbr r hr).1
                    · simp only [List.mem_cons, List.not_mem_nil, or_false] at q
                      rcases q with rfl | rfl
                      · intro c hc; simp at hc; omega
                      · intro c hc; cases hc
                  have hDl : (FN.map row2L ++ [[46], []]).length ≤ 8 := by simp; omega
                  generalize FN.map row2L ++ [[46], []] = DU at hEnd hsm hDl ⊢
                  refine ex_st (ls' := [(Str.ofString "due", .ref Du)]) (ns' := (Du, .list (DU.map fun l => Mine.S (sx l))) :: LxB 132 a KK (rowV2 FN ++ [Mine.S (sx [46])]) [] Z3) (by walk_at "ls") (by walk_at "pk") ?_
                  rw [eQ]
                  walk_at "G"
                  refine ev_comp (cl := [(Str.ofString "lexer", c3)]) (by rfl) (by decide) (by rfl) (by decide) ?_
                  walk_at "G"
                  refine itr_list (vs := DU.map fun l => Mine.S (sx l)) (by walk_at "sel") ?_
                  intro Cn7
                  rw [List.map_map]
                  refine ml_gen (α := List (List Nat) × List (List Nat)) (no := fun b => LxB 132 a KK (b.2.map fun l => Mine.S (sx l)) [] Z3) (ya := fun b => b.1.map fun l => Mine.S (sx l)) (f := fun l : List Nat => [(Str.ofString "row", Mine.S (sx l))]) (Inv := EndInv DU) (nil := fun b hI => ?qn) (cons := fun b q r hI ih => ?qc) DU ([], FN.map row2L ++ [[46]]) hEnd
                  case qc =>
                    obtain ⟨b1, b2⟩ := b
                    obtain ⟨j1, j2⟩ := hI
                    dsimp only at j1 j2 ih ⊢
                    have hlen := congrArg List.length j1
                    simp only [List.length_append, List.length_cons] at hlen
                    refine ml_cons (by walk_at "env") (by rfl) (by rw [sizeLine_eq, List.length_map]; omega) ?_
                    walk_at "call"
                    refine ev_cell (by walk_at "env") (by rfl) (by rfl) (by walk_at "mem") ?_
                    refine gm_inst (f := 122) (by walk_at "mem") (by walk_at "mem") (by walk_at "kis") (by walk_at "kis") (by walk_at "kis") (by rfl) ?_
                    walk_at "cwK"
                    walk_at "G"
                    rcases j2 with j2 | ⟨j2, -⟩
                    · cases b2 with
                      | nil =>
                        simp only [List.nil_append, List.cons.injEq] at j2
                        obtain ⟨rfl, rfl⟩ := j2
                        refine (gettT (t := []) (rest := []) ha (by simp) (by rfl) ?_).cl
                        have := ih (b1 ++ [[]], []) ⟨by dsimp only; rw [← j1]; simp, .inr ⟨rfl, rfl⟩⟩
                        rw [List.map_append] at this
                        exact this
                      | cons x b2 =>
                        simp only [List.cons_append, List.cons.injEq] at j2
                        obtain ⟨rfl, rfl⟩ := j2
                        simp only [List.length_append, List.length_singleton] at hlen
                        refine (gettP (by rw [List.length_map]; omega) ?_).cl
                        have := ih (b1 ++ [q], b2) ⟨by dsimp only; rw [← j1]; simp, .inl rfl⟩
                        rw [List.map_append] at this
                        exact this
                    · cases j2
                  case qn =>
                    have j1 := hI.1
                    rw [List.append_nil] at j1
                    rw [j1]
                    intro De
                    walk_at "G"
                    refine cmp_eq_data (da := listD DU) (db := listD DU) (by omega) (.list (.list (by walk_at "mem")) (rdA_strs DU)) (.list (.list (by walk_at "mem")) (rdA_strs DU)) (shaped_list hsm) (shaped_list hsm) ?_
                    rw [eqv_self (lay_list hsm).1]
                    exact ⟨by rfl, ps', by walk_at "mem", by walk_at "mem"⟩
theorem listsK {w : World} : noLists (C2 w).K = true := by
  kernel_rfl
theorem all_holds : PySem.Challenge.rw_sc0057_02.Holds := hd.2.down (by
  dsimp only [hd, mkHd]
  k_go0
  rename_i w s₀ s₁ mg mb G Y fa o pm cd doc ho hcd hg X V T B TE TW xs hs hlay0 hL1 hr1 hl2 w7 w6 sc its w3 hL ra w1 r0 hI hr hc1 hc2 hD h₁ tk₁ o1 d1 X0 X' T' K' F' N' l0
  cases w1 with
  | @list _ vs _ ew wa =>
  have eVs : vs = its := by
    obtain ⟨o', e1, _, n', e2⟩ := hL
    rw [ew] at e1
    rw [← Option.some.inj e1] at e2
    injection e2 with e3
    simpa using e3
  subst eVs
  have eb : (ghostOf s₁.heap [(199, 195)]).get? sc = some (lstO vs.toArray 0) := ghost_get hT9 ew (by intro q; injection q with q1; cases q1)
  have hGd := hide_gd (C := C2 w) X' T' eb listsK
  have hx63 : xs.length ≤ 63 := by omega
  have hS := hide_st (C := C2 w) (ls := [(Str.ofString "script", .ref sc)]) (ns := [(s₁.heap.objs.size + 1, .cell none), (195, .raw (tabObj #[]))]) F' N' eb (by
      intro x v e
      rw [List.lookup_cons] at e
      cases hy : x == Str.ofString "script" with
      | false => rw [hy] at e; cases e
      | true =>
        rw [hy] at e
        cases e
        have hy' := eq_of_beq hy
        subst hy'
        exact ⟨.ref sc, by rfl, rfl⟩) (.cons ⟨none, d1, rfl, free_cell d1⟩ (.cons rfl .nil)) (by simp; omega)
  have hS2 := hS.pk (ns' := [(s₁.heap.objs.size + 1, .cell none), (195, .raw (tabObj #[])), (sc, .raw (lstO vs.toArray 0))]) (by walk_at "pk")
  show wpAny (C2 w).M _ _ _ _ _
  refine law_run (C := C2 w) (n := 8) (Q := fun f l m => f = .ret (.bool true) ∧ ∃ ps', (195, PO.raw (tabObj ps')) ∈ m ∧ (sc, PO.raw { cls := .type "list", data := .seq vs.toArray 0 }) ∈ m) ?E (caller_rm _) hGd hS2 fun fl s' ls' ns' S' k q => ?post
  case E =>
    clear hGd hS2 hS eb
    have hv : vs.toArray.toList.map er = xs.map I := by rw [List.toList_toArray]; exact ints_er hI
    exact lawE2 (n := 0) (by walk_at "kis") hv hx63
  case post =>
    obtain ⟨h', t', rfl⟩ := k
    obtain ⟨e, ps', m1, m2⟩ := q
    have hfl : fl = .ret (.bool true) := by
      cases fl with
      | ret v => injection e with e; rw [er_bool e]
      | next => cases e
      | brk => cases e
      | cont => cases e
    subst hfl
    refine ⟨law_good (fun cls => rfl) (by first | wrow_post | exact postW_of (X := true) (by rfl) (by first | rfl | wtm_val | simp [OpenLaw.row, WTm.value]) rfl) (fun b o' e' => ?_) rfl hg, ?_, trivial⟩
    · by_cases hb : b = sc
      · subst hb
        obtain ⟨x, e1, e2⟩ := S'.get m2
        rw [e1, show x = _ from e2]
        have : some o' = some (lstO vs.toArray 0) := e'.symm.trans eb
        exact this.symm
      · exact S'.keep b o' (hideAll_get _ e' (by simpa using hb))
    · obtain ⟨x, e1, e2⟩ := S'.get m1
      rw [show x = _ from e2] at e1
      exact ⟨ps', e1⟩
  )
end Mine
theorem PySem.Challenge.cw_sc0057_02_holds : PySem.Challenge.rw_sc0057_02.Holds := by
  exact Mine.all_holds
