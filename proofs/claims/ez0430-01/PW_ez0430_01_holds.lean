import PyProof.Rows.All
import Wide.All
import OpenK.AllK
import KE.KBits
import KE.KIntText
import KE.KxDecode
import Wide.FinOn
import PySem.Challenge.RW_ez0430_01
open PySem PySem.W PyProof.Rows
set_option Elab.async false
set_option maxRecDepth 100000
set_option linter.unusedVariables false
set_option linter.unusedSimpArgs false
namespace Mine
set_option maxHeartbeats 8000000 in
open_top hd for PySem.Challenge.rw_ez0430_01
open PySem PySem.W PySem.Calls PyProof.Rows

/-! ### MA -/

/-! ## pure data, as the heap bears it -/
inductive D where
  | py (d : PyData)
  | bytes (b : Array UInt8)
  | val (v : Value)

abbrev D.int (i : Int) : D := .py (.int i)
abbrev D.str (s : Str) : D := .py (.str s)
abbrev D.bool (b : Bool) : D := .py (.bool b)
abbrev D.none : D := .py .none
abbrev D.tup (l : List PyData) : D := .py (.tuple l)
abbrev D.lst (l : List PyData) : D := .py (.list l)

mutual
/-- the value bears the data; no tuple of it lies at an address of F; as: its lists' addresses -/
inductive RdV (F : List Addr) (h : Heap) : Value → PyData → List Addr → Prop
  | none : RdV F h .none .none []
  | bool (b) : RdV F h (.bool b) (.bool b) []
  | int (i t) : RdV F h (.int i t) (.int i) []
  | str (x t) : RdV F h (.str x t) (.str x) []
  | list {a o vs n xs as} : h.get? a = some o → o.cls = .type "list" → o.data = .seq vs n → RdVs F h vs.toList xs as → RdV F h (.ref a) (.list xs) (a :: as)
  | tuple {a o vs n xs as} : h.get? a = some o → o.cls = .type "tuple" → o.data = .seq vs n → a ∉ F → RdVs F h vs.toList xs as → RdV F h (.ref a) (.tuple xs) as
inductive RdVs (F : List Addr) (h : Heap) : List Value → List PyData → List Addr → Prop
  | nil : RdVs F h [] [] []
  | cons {v vs d ds as bs} : RdV F h v d as → RdVs F h vs ds bs → RdVs F h (v :: vs) (d :: ds) (as ++ bs)
end
mutual
theorem RdV.reads {F : List Addr} {h : Heap} : ∀ {v d as}, RdV F h v d as → Reads h v d as
  | _, _, _, .none => .none
  | _, _, _, .bool b => .bool b
  | _, _, _, .int i t => .int i t
  | _, _, _, .str x t => .str x t
  | _, _, _, .list ho hc hd hr => .list ho hc hd (RdVs.reads hr)
  | _, _, _, .tuple ho hc hd _ hr => .tuple ho hc hd (RdVs.reads hr)
theorem RdVs.reads {F : List Addr} {h : Heap} : ∀ {vs ds as}, RdVs F h vs ds as → ReadsAll h vs ds as
  | _, _, _, .nil => .nil
  | _, _, _, .cons h1 h2 => .cons (RdV.reads h1) (RdVs.reads h2)
end
mutual
theorem RdV.keeps {F : List Addr} {h h' : Heap} (k : h.StaysIn h') : ∀ {v d as}, RdV F h v d as → RdV F h' v d as
  | _, _, _, .none => .none
  | _, _, _, .bool b => .bool b
  | _, _, _, .int i t => .int i t
  | _, _, _, .str x t => .str x t
  | _, _, _, .list ho hc hd hr => .list (k _ _ ho) hc hd (RdVs.keeps k hr)
  | _, _, _, .tuple ho hc hd hF hr => .tuple (k _ _ ho) hc hd hF (RdVs.keeps k hr)
theorem RdVs.keeps {F : List Addr} {h h' : Heap} (k : h.StaysIn h') : ∀ {vs ds as}, RdVs F h vs ds as → RdVs F h' vs ds as
  | _, _, _, .nil => .nil
  | _, _, _, .cons h1 h2 => .cons (RdV.keeps k h1) (RdVs.keeps k h2)
end
mutual
/-- other forbidden addresses -/
theorem RdV.forb {F F' : List Addr} {h : Heap} (k : ∀ a, a ∈ F' → a ∈ F ∨ h.get? a = .none) : ∀ {v d as}, RdV F h v d as → RdV F' h v d as
  | _, _, _, .none => .none
  | _, _, _, .bool b => .bool b
  | _, _, _, .int i t => .int i t
  | _, _, _, .str x t => .str x t
  | _, _, _, .list ho hc hd hr => .list ho hc hd (RdVs.forb k hr)
  | _, _, _, .tuple ho hc hd hF hr => .tuple ho hc hd (fun m => (k _ m).elim hF fun e => by rw [ho] at e; cases e) (RdVs.forb k hr)
theorem RdVs.forb {F F' : List Addr} {h : Heap} (k : ∀ a, a ∈ F' → a ∈ F ∨ h.get? a = .none) : ∀ {vs ds as}, RdVs F h vs ds as → RdVs F' h vs ds as
  | _, _, _, .nil => .nil
  | _, _, _, .cons h1 h2 => .cons (RdV.forb k h1) (RdVs.forb k h2)
end

def Rd (F : List Addr) (h : Heap) (v : Value) : D → List Addr → Prop
  | .py d, as => RdV F h v d as
  | .bytes b, as => (∃ t, v = .bytes b t) ∧ as = []
  | .val v', as => v = v' ∧ as = []

theorem Rd.keeps {F : List Addr} {h h' : Heap} (k : h.StaysIn h') {v d as} (r : Rd F h v d as) : Rd F h' v d as := by
  cases d with
  | py d => exact RdV.keeps k r
  | bytes b => exact r
  | val v' => exact r
theorem Rd.forb {F F' : List Addr} {h : Heap} (k : ∀ a, a ∈ F' → a ∈ F ∨ h.get? a = .none) {v d as} (r : Rd F h v d as) : Rd F' h v d as := by
  cases d with
  | py d => exact RdV.forb k r
  | bytes b => exact r
  | val v' => exact r

mutual
theorem rdv_off {F : List Addr} {h h' : Heap} (z : Addr → Prop) (hz : ∀ a o vs n, z a → a ∉ F → h.get? a = some o → o.cls = .type "tuple" → o.data = .seq vs n → False) (hk : ∀ b o, h.get? b = some o → ¬ z b → h'.get? b = some o) :
    ∀ {v : Value} {d : PyData} {as : List Addr}, RdV F h v d as → (∀ a ∈ as, ¬ z a) → RdV F h' v d as
  | _, _, _, .none, _ => .none
  | _, _, _, .bool b, _ => .bool b
  | _, _, _, .int i t, _ => .int i t
  | _, _, _, .str x t, _ => .str x t
  | _, _, _, .list ho hc hd hr, n => .list (hk _ _ ho (n _ (.head _))) hc hd (rdvs_off z hz hk hr fun a m => n a (.tail _ m))
  | _, _, _, .tuple ho hc hd hF hr, n => .tuple (hk _ _ ho fun q => hz _ _ _ _ q hF ho hc hd) hc hd hF (rdvs_off z hz hk hr n)
theorem rdvs_off {F : List Addr} {h h' : Heap} (z : Addr → Prop) (hz : ∀ a o vs n, z a → a ∉ F → h.get? a = some o → o.cls = .type "tuple" → o.data = .seq vs n → False) (hk : ∀ b o, h.get? b = some o → ¬ z b → h'.get? b = some o) :
    ∀ {vs : List Value} {ds : List PyData} {as : List Addr}, RdVs F h vs ds as → (∀ a ∈ as, ¬ z a) → RdVs F h' vs ds as
  | _, _, _, .nil, _ => .nil
  | _, _, _, .cons h1 h2, n => .cons (rdv_off z hz hk h1 fun a m => n a (List.mem_append_left _ m)) (rdvs_off z hz hk h2 fun a m => n a (List.mem_append_right _ m))
end
theorem Rd.off {F : List Addr} {h h' : Heap} (z : Addr → Prop) (hz : ∀ a o vs n, z a → a ∉ F → h.get? a = some o → o.cls = .type "tuple" → o.data = .seq vs n → False) (hk : ∀ b o, h.get? b = some o → ¬ z b → h'.get? b = some o)
    {v : Value} {d : D} {as : List Addr} (r : Rd F h v d as) (n : ∀ a ∈ as, ¬ z a) : Rd F h' v d as := by
  cases d with
  | py d => exact rdv_off z hz hk r n
  | bytes b => exact r
  | val v' => exact r

/-- what lies at a list's address -/
def IsLst (h : Heap) (a : Addr) : Prop := ∃ o vs n, h.get? a = some o ∧ o.cls = .type "list" ∧ o.data = .seq vs n
mutual
theorem rdv_kind {F : List Addr} {h : Heap} : ∀ {v : Value} {d : PyData} {as : List Addr}, RdV F h v d as → ∀ a ∈ as, IsLst h a
  | _, _, _, .none, _, m => nomatch m
  | _, _, _, .bool b, _, m => nomatch m
  | _, _, _, .int i t, _, m => nomatch m
  | _, _, _, .str x t, _, m => nomatch m
  | _, _, _, .list ho hc hd hr, a, m => by
    cases m with
    | head => exact ⟨_, _, _, ho, hc, hd⟩
    | tail _ m => exact rdvs_kind hr a m
  | _, _, _, .tuple ho hc hd _ hr, a, m => rdvs_kind hr a m
theorem rdvs_kind {F : List Addr} {h : Heap} : ∀ {vs : List Value} {ds : List PyData} {as : List Addr}, RdVs F h vs ds as → ∀ a ∈ as, IsLst h a
  | _, _, _, .nil, _, m => nomatch m
  | _, _, _, .cons h1 h2, a, m => (List.mem_append.mp m).elim (rdv_kind h1 a) (rdvs_kind h2 a)
end
theorem Rd.kind {F : List Addr} {h : Heap} {v : Value} {d : D} {as : List Addr} (r : Rd F h v d as) : ∀ a ∈ as, IsLst h a := by
  cases d with
  | py d => exact rdv_kind r
  | bytes b => intro a m; rw [r.2] at m; cases m
  | val v' => intro a m; rw [r.2] at m; cases m

/-! ## the globals -/
structure Gd (w : World) (mg mb : Str → Option Value) (h : Heap) : Prop where
  kin : (hd.heap_39 w.params).In h
  g : h.Ns mainGlobals mg
  b : h.Ns builtinsNs mb
  nolimit : h.NoLimit
  nodigits : ∃ mc, h.Ns cStatics mc ∧ mc "sys.int_max_str_digits" = none
  builtins : ∀ x : Str, x ≠ "__name__" → mb x = bootBuiltins x

theorem Gd.keeps {w mg mb} {h h' : Heap} (G : Gd w mg mb h) (k : h.StaysIn h') : Gd w mg mb h' where
  kin := G.kin.keeps k
  g := G.g.keeps k
  b := G.b.keeps k
  nolimit := G.nolimit.keeps k
  nodigits := let ⟨mc, h1, h2⟩ := G.nodigits; ⟨mc, h1.keeps k, h2⟩
  builtins := G.builtins

abbrev PG : Program := PySem.Challenge.pw_ez0430_01

structure Fc where
  w : World
  mg : Str → Option Value
  mb : Str → Option Value
  A : Around
  h₀ : Heap
  env : Env
  n : Nat
  F : List Addr

abbrev Fc.M (Γ : Fc) : Model := model PG Γ.w

structure Fc.Ok (Γ : Fc) : Prop where
  kind : Γ.env.scope.kind = .function
  glob : Γ.env.globals = mainGlobals
  blt : Γ.env.builtins = builtinsNs
  gd : Gd Γ.w Γ.mg Γ.mb Γ.h₀
  dep : Γ.A.depth + Γ.n < recursionLimit
  un : Γ.A.units + 4 * Γ.n + 80 < cLine
  hnd : Γ.A.handled = none
  apart : ∀ x y c, Γ.env.cells.lookup x = some c → Γ.env.cells.lookup y = some c → x = y

abbrev Loc := List (String × D)
abbrev Mu := List (Addr × List PyData)
abbrev Mu.as (μ : Mu) : List Addr := μ.map Prod.fst
abbrev Fc.Z (Γ : Fc) (μ : Mu) : List Addr := Γ.env.locals :: Mu.as μ

def Fc.var (Γ : Fc) (m cm : Str → Option Value) (x : Str) : Option Value :=
  match Γ.env.kindOf x with
  | some .local => m x
  | some .cell => if (Γ.env.cells.lookup x).isSome then cm x else none
  | some .free => if (Γ.env.cells.lookup x).isSome then cm x else none
  | _ => none

structure Amb (w : World) (A : Around) (F : List Addr) (s : Shared) : Prop where
  forb : ∀ a ∈ F, ∃ o, s.heap.get? a = some o
  gd : ∃ mg mb, Gd w mg mb s.heap
  un : A.units + 80 < cLine
  dep : A.depth < recursionLimit
  hnd : A.handled = none

structure StW (Γ : Fc) (ρ : Loc) (μ : Mu) (h : Heap) (m cm : Str → Option Value) : Prop where
  ok : Γ.Ok
  fr : Fr Γ.h₀ Γ.env.locals h m
  cell : ∀ x c, Γ.env.cells.lookup x = some c → h.IsCell c (cm x)
  loc : ∀ x d, ρ.lookup x = some d → ∃ v as, Γ.var m cm (Str.ofString x) = some v ∧ Rd Γ.F h v d as ∧ ∀ a ∈ as, a ∉ Γ.Z μ
  mu : ∀ a ds, (a, ds) ∈ μ → ∃ vs as n, h.get? a = some (listOf vs.toArray n) ∧ RdVs Γ.F h vs ds as ∧ (∀ b ∈ as, b ∉ Γ.Z μ) ∧ Γ.h₀.get? a = none
  nod : μ.as.Nodup
  forb : ∀ a ∈ Γ.F, ∃ o, h.get? a = some o

def St (Γ : Fc) (ρ : Loc) (μ : Mu) (s : Shared) : Prop := ∃ m cm, StW Γ ρ μ s.heap m cm

theorem Heap.IsCell.keeps' {h h' : Heap} {c v} (x : h.IsCell c v) (k : h.StaysIn h') : h'.IsCell c v := x.keeps k

theorem StW.keeps {Γ ρ μ h h' m cm} (S : StW Γ ρ μ h m cm) (k : h.StaysIn h') : StW Γ ρ μ h' m cm where
  ok := S.ok
  fr := S.fr.after k
  cell := fun x c e => (S.cell x c e).keeps k
  loc := fun x d e => let ⟨v, as, h1, h2, h3⟩ := S.loc x d e; ⟨v, as, h1, h2.keeps k, h3⟩
  mu := fun a ds e => let ⟨vs, as, n, h1, h2, h3, h4⟩ := S.mu a ds e; ⟨vs, as, n, k _ _ h1, RdVs.keeps k h2, h3, h4⟩
  nod := S.nod
  forb := fun a m => let ⟨o, e⟩ := S.forb a m; ⟨o, k _ _ e⟩

def Grow (s s' : Shared) : Prop := s.heap.StaysIn s'.heap ∧ ∃ h tk, s' = { s with heap := h, toks := tk }
theorem Grow.refl (s : Shared) : Grow s s := ⟨fun _ _ e => e, s.heap, s.toks, rfl⟩
theorem Grow.trans {s s' s'' : Shared} (x : Grow s s') (y : Grow s' s'') : Grow s s'' := by
  obtain ⟨k, h, tk, rfl⟩ := x
  obtain ⟨k', h', tk', rfl⟩ := y
  exact ⟨fun b o e => k' b o (k b o e), h', tk', rfl⟩
theorem Grow.tok (s : Shared) (tk : Nat) : Grow s { s with toks := tk } := ⟨fun _ _ e => e, s.heap, tk, rfl⟩
theorem Grow.heap {s : Shared} {h : Heap} (tk : Nat) (k : s.heap.StaysIn h) : Grow s { s with heap := h, toks := tk } := ⟨k, h, tk, rfl⟩
theorem Grow.push (s : Shared) (o : Obj) : Grow s { s with heap := s.heap.push o } := ⟨fun _ _ e => Heap.get?_push_of_some _ e, _, s.toks, rfl⟩
theorem St.grow {Γ ρ μ s s'} (S : St Γ ρ μ s) (g : Grow s s') : St Γ ρ μ s' := let ⟨m, cm, h⟩ := S; ⟨m, cm, h.keeps g.1⟩

theorem StW.gd {Γ ρ μ h m cm} (S : StW Γ ρ μ h m cm) : Gd Γ.w Γ.mg Γ.mb h := S.ok.gd.keeps S.fr.keep
theorem St.amb {Γ ρ μ s} (S : St Γ ρ μ s) : Amb Γ.w Γ.A Γ.F s := by
  obtain ⟨m, cm, W⟩ := S
  have h1 := W.ok.un
  have h2 := W.ok.dep
  exact ⟨W.forb, ⟨_, _, W.gd⟩, by omega, by omega, W.ok.hnd⟩
theorem St.mu_some {Γ : Fc} {ρ μ s a} (S : St Γ ρ μ s) (h : a ∈ Γ.Z μ) : ∃ o, s.heap.get? a = some o := by
  obtain ⟨m, cm, W⟩ := S
  rcases List.mem_cons.mp h with rfl | h
  · obtain ⟨o, _, _, ho, _⟩ := W.fr.ns
    exact ⟨o, ho⟩
  obtain ⟨p, hp, rfl⟩ := List.mem_map.mp h
  obtain ⟨vs, as, n, ho, _⟩ := W.mu p.1 p.2 hp
  exact ⟨_, ho⟩
/-- fresh lists are no list of the frame's own -/
theorem St.fresh {Γ : Fc} {ρ μ s} {as : List Addr} (S : St Γ ρ μ s) (h : ∀ a ∈ as, s.heap.get? a = none) : ∀ a ∈ as, a ∉ Γ.Z μ := fun a ha hm => by
  obtain ⟨o, ho⟩ := S.mu_some hm
  rw [h a ha] at ho; cases ho

/-! ## expressions -/
structure Ev (Γ : Fc) (ρ : Loc) (μ : Mu) (e : Expr) (d : D) : Prop where
  run : ∀ (s : Shared) (Q : Value → Shared → Prop) (E : Value → Shared → Prop), St Γ ρ μ s →
    (∀ v as s', Grow s s' → Rd Γ.F s'.heap v d as → (∀ a ∈ as, a ∉ Γ.Z μ) → Q v s') → wpAny Γ.M Γ.A (eval e Γ.env) Q E s
structure EvT (Γ : Fc) (ρ : Loc) (μ : Mu) (e : Expr) (b : Bool) : Prop where
  run : ∀ (s : Shared) (Q : Bool → Shared → Prop) (E : Value → Shared → Prop), St Γ ρ μ s →
    (∀ s', Grow s s' → Q b s') → wpAny Γ.M Γ.A (isTrue e Γ.env (eval e Γ.env)) Q E s
theorem Ev.eq {Γ ρ μ e d d'} (h : Ev Γ ρ μ e d) (q : d = d') : Ev Γ ρ μ e d' := q ▸ h
theorem EvT.eq {Γ ρ μ e b b'} (h : EvT Γ ρ μ e b) (q : b = b') : EvT Γ ρ μ e b' := q ▸ h

theorem Ev.int {Γ ρ μ i k pos} : Ev Γ ρ μ (.Constant (.int i) k pos) (.int i) := ⟨fun s Q E S h =>
  wpAny_Constant_int (h _ [] _ (Grow.tok s _) (RdV.int _ _) (fun _ x => nomatch x))⟩
theorem Ev.str {Γ ρ μ x k pos} : Ev Γ ρ μ (.Constant (.str x) k pos) (.str x) := ⟨fun s Q E S h =>
  Calls.Constant_str (h _ [] _ (Grow.tok s _) (RdV.str _ _) (fun _ x => nomatch x))⟩
theorem Ev.bool {Γ ρ μ b k pos} : Ev Γ ρ μ (.Constant (.bool b) k pos) (.bool b) := ⟨fun s Q E S h =>
  wpAny_Constant_bool (h _ [] _ (Grow.refl s) (RdV.bool _) (fun _ x => nomatch x))⟩
theorem Ev.none {Γ ρ μ k pos} : Ev Γ ρ μ (.Constant .none k pos) .none := ⟨fun s Q E S h =>
  wpAny_Constant_none (h _ [] _ (Grow.refl s) RdV.none (fun _ x => nomatch x))⟩


/-! ### MB -/

theorem Ev.name {Γ : Fc} {ρ μ d pos} {x : String} (h : ρ.lookup x = some d) (hd : (Str.ofString x == ("__debug__" : Str)) = false := by decide)
    (hn : (Str.ofString x == ("__classdict__" : Str)) = false := by decide) : Ev Γ ρ μ (.Name (Str.ofString x) pos) d := ⟨fun s Q E S k => by
  obtain ⟨m, cm, W⟩ := S
  obtain ⟨v, as, hv, hr, ha⟩ := W.loc x d h
  have q := k v as s (Grow.refl s) hr ha
  have kind := W.ok.kind
  refine wpAny_Name ?_ hd
  unfold Fc.var at hv
  split at hv
  · rename_i hl; exact wpAny_loadName_local kind hl W.fr.ns hv q
  · rename_i hl
    cases hc : Γ.env.cells.lookup (Str.ofString x) with
    | some c => rw [hc] at hv; exact wpAny_loadName_cell kind hl hc ((show cm _ = some v from hv) ▸ W.cell _ c hc) q
    | none => rw [hc] at hv; cases hv
  · rename_i hl
    cases hc : Γ.env.cells.lookup (Str.ofString x) with
    | some c => rw [hc] at hv; exact wpAny_loadName_free kind hl hc ((show cm _ = some v from hv) ▸ W.cell _ c hc) q hn
    | none => rw [hc] at hv; cases hv
  · cases hv⟩

def Glo (x : String) (v : Value) : Prop :=
  (∀ P, nsIn (hd.heap_39 P) mainGlobals (Str.ofString x) = some (some v)) ∨
  ((∀ P, nsIn (hd.heap_39 P) mainGlobals (Str.ofString x) = some none) ∧ bootBuiltins (Str.ofString x) = some v ∧ Str.ofString x ≠ "__name__")

theorem Ev.glob {Γ : Fc} {ρ μ pos} {x : String} {v : Value} (g : Glo x v) (hx : Γ.env.kindOf (Str.ofString x) = some .globalImplicit := by rfl)
    (hd : (Str.ofString x == ("__debug__" : Str)) = false := by decide) : Ev Γ ρ μ (.Name (Str.ofString x) pos) (.val v) := ⟨fun s Q E S k => by
  obtain ⟨m, cm, W⟩ := S
  have G := W.gd
  have q := k v [] s (Grow.refl s) ⟨rfl, rfl⟩ (fun _ x => nomatch x)
  rcases g with g | ⟨g, hb, hn⟩
  · exact Name_function_global W.ok.kind hx (loadGlobal_global (by rw [W.ok.glob]; exact G.g) (mg_of G.kin G.g (g _)) q) hd
  · exact Name_function_global W.ok.kind hx (loadGlobal_builtin (by rw [W.ok.glob]; exact G.g) (mg_none_of G.kin G.g (g _)) (by rw [W.ok.blt]; exact G.b) ((G.builtins _ hn).trans hb) q) hd⟩

/-! ## binary operators -/
structure BinJ (op : Operator) (d1 d2 d : D) : Prop where
  run : ∀ (w : World) (A : Around) (s : Shared) (Q : Value → Shared → Prop) (E : Value → Shared → Prop) (v1 v2 : Value) (as1 as2 F : List Addr), Amb w A F s → Rd F s.heap v1 d1 as1 → Rd F s.heap v2 d2 as2 →
    (∀ v as s', Grow s s' → Rd F s'.heap v d as → (∀ a ∈ as, s.heap.get? a = none) → Q v s') → wpAny (model PG w) A (binaryOp op v1 v2) Q E s
theorem Ev.bin {Γ : Fc} {ρ μ op e1 e2 d1 d2 d pos} (h1 : Ev Γ ρ μ e1 d1) (h2 : Ev Γ ρ μ e2 d2) (h : BinJ op d1 d2 d) : Ev Γ ρ μ (.BinOp e1 op e2 pos) d := ⟨fun s Q E S k => by
  refine wpAny_BinOp (h1.run s _ E S fun v1 as1 s1 g1 r1 n1 => h2.run s1 _ E (S.grow g1) fun v2 as2 s2 g2 r2 n2 => ?_)
  have S2 := (S.grow g1).grow g2
  exact h.run Γ.w Γ.A s2 Q E v1 v2 as1 as2 Γ.F S2.amb (r1.keeps g2.1) r2 fun v as s' g r n => k v as s' (g1.trans (g2.trans g)) r (S2.fresh n)⟩

section
variable {w : World} {A : Around} {s : Shared} {E : Value → Shared → Prop}
theorem none_fresh {h : Heap} : ∀ a ∈ ([] : List Addr), h.get? a = none := fun _ x => nomatch x
end

theorem BinJ.of_int {op : Operator} {a b c : Int} (h : ∀ (w : World) (A : Around) (s : Shared) (Q : Value → Shared → Prop) (E : Value → Shared → Prop) (t u : Tok) (F : List Addr), Amb w A F s →
    Q (.int c s.toks) { s with toks := s.toks + 1 } → wpAny (model PG w) A (binaryOp op (.int a t) (.int b u)) Q E s) : BinJ op (.int a) (.int b) (.int c) := by
  refine ⟨?_⟩
  intro w A s Q E v1 v2 as1 as2 F am r1 r2 k
  cases r1 with
  | int _ t => cases r2 with
    | int _ u => exact h w A s Q E t u F am (k _ [] _ (Grow.tok s _) (RdV.int _ _) none_fresh)

theorem BinJ.add {a b : Int} : BinJ .Add (.int a) (.int b) (.int (a + b)) := .of_int fun w A s Q E t u F am k => PyProof.Rows.add_int k
theorem BinJ.sub {a b : Int} : BinJ .Sub (.int a) (.int b) (.int (a - b)) := .of_int fun w A s Q E t u F am k => PyProof.Rows.sub_int k
theorem BinJ.mul {a b : Int} (h : IntMulOk a b) : BinJ .Mult (.int a) (.int b) (.int (a * b)) := .of_int fun w A s Q E t u F am k => PyProof.Rows.mul_int k h
theorem BinJ.mod {a b : Int} (h : b ≠ 0) : BinJ .Mod (.int a) (.int b) (.int (a.fmod b)) := .of_int fun w A s Q E t u F am k => PyProof.Rows.mod_int' h k
theorem BinJ.fdiv {a b : Int} (h : b ≠ 0) (hs : Builtin.divisionGoesByPylong a b = false) : BinJ .FloorDiv (.int a) (.int b) (.int (a.fdiv b)) := .of_int fun w A s Q E t u F am k => PyProof.Rows.floordiv_int h k (.inl hs)
theorem BinJ.rsh {a b : Int} (h : 0 ≤ b) : BinJ .RShift (.int a) (.int b) (.int (a.fdiv (2 ^ b.toNat))) := .of_int fun w A s Q E t u F am k => PyProof.Rows.rshift_int h k
theorem BinJ.and {a b : Int} : BinJ .BitAnd (.int a) (.int b) (.int (Builtin.bitAnd a b)) := .of_int fun w A s Q E t u F am k => PyProof.Rows.and_int k
theorem BinJ.pow {a b : Int} (h : 0 ≤ b) (hs : (Builtin.Int.intBits a : Int) * b ≤ 2 ^ 27) : BinJ .Pow (.int a) (.int b) (.int (a ^ b.toNat)) := .of_int fun w A s Q E t u F am k => PyProof.Rows.pow_int h hs k
theorem BinJ.eq {op d1 d2 d d'} (h : BinJ op d1 d2 d) (q : d = d') : BinJ op d1 d2 d' := q ▸ h

theorem BinJ.adds {x y : Str} (h : x.length + y.length ≤ 16777216) : BinJ .Add (.str x) (.str y) (.str (x ++ y)) := by
  refine ⟨?_⟩
  intro w A s Q E v1 v2 as1 as2 F am r1 r2 k
  cases r1 with
  | str _ t => cases r2 with
    | str _ u => exact PyProof.Rows.add_str (fun t' tk => k _ [] _ (Grow.tok s _) (RdV.str _ _) none_fresh) (by rw [sizeLine_eq]; exact h)

/-! ## comparisons -/
structure CmpJ (op : CmpOp) (d1 d2 : D) (b : Bool) : Prop where
  run : ∀ (w : World) (A : Around) (s : Shared) (Q : Value → Shared → Prop) (E : Value → Shared → Prop) (v1 v2 : Value) (as1 as2 F : List Addr), Amb w A F s → Rd F s.heap v1 d1 as1 → Rd F s.heap v2 d2 as2 →
    (∀ s', Grow s s' → Q (.bool b) s') → wpAny (model PG w) A (compareOp op v1 v2) Q E s
theorem CmpJ.eq {op d1 d2 b b'} (h : CmpJ op d1 d2 b) (q : b = b') : CmpJ op d1 d2 b' := q ▸ h
theorem CmpJ.of_int {op : CmpOp} {a b : Int} {c : Bool} (h : ∀ (w : World) (A : Around) (s : Shared) (Q : Value → Shared → Prop) (E : Value → Shared → Prop) (t u : Tok) (F : List Addr), Amb w A F s →
    Q (.bool c) s → wpAny (model PG w) A (compareOp op (.int a t) (.int b u)) Q E s) : CmpJ op (.int a) (.int b) c := by
  refine ⟨?_⟩
  intro w A s Q E v1 v2 as1 as2 F am r1 r2 k
  cases r1 with
  | int _ t => cases r2 with
    | int _ u => exact h w A s Q E t u F am (k _ (Grow.refl s))
theorem CmpJ.ieq {a b : Int} : CmpJ .Eq (.int a) (.int b) (decide (a = b)) := .of_int fun w A s Q E t u F am k => PyProof.Rows.eq_int (by rw [show (a == b) = decide (a = b) from rfl]; exact k)
theorem CmpJ.ine {a b : Int} : CmpJ .NotEq (.int a) (.int b) (decide (a ≠ b)) := .of_int fun w A s Q E t u F am k => PyProof.Rows.ne_int (by rw [show (a != b) = decide (a ≠ b) from by by_cases h : a = b <;> simp [h]]; exact k)
theorem CmpJ.lt {a b : Int} : CmpJ .Lt (.int a) (.int b) (decide (a < b)) := .of_int fun w A s Q E t u F am k => PyProof.Rows.lt_int k
theorem CmpJ.le {a b : Int} : CmpJ .LtE (.int a) (.int b) (decide (a ≤ b)) := .of_int fun w A s Q E t u F am k => PyProof.Rows.le_int k
theorem CmpJ.gt {a b : Int} : CmpJ .Gt (.int a) (.int b) (decide (b < a)) := .of_int fun w A s Q E t u F am k => PyProof.Rows.gt_int k
theorem CmpJ.ge {a b : Int} : CmpJ .GtE (.int a) (.int b) (decide (b ≤ a)) := .of_int fun w A s Q E t u F am k => PyProof.Rows.ge_int k
theorem CmpJ.seq {x y : Str} : CmpJ .Eq (.str x) (.str y) (x == y) := by
  refine ⟨?_⟩
  intro w A s Q E v1 v2 as1 as2 F am r1 r2 k
  cases r1 with
  | str _ t => cases r2 with
    | str _ u => exact PyProof.Rows.eq_str (k _ (Grow.refl s))
theorem CmpJ.sne {x y : Str} : CmpJ .NotEq (.str x) (.str y) (x != y) := by
  refine ⟨?_⟩
  intro w A s Q E v1 v2 as1 as2 F am r1 r2 k
  cases r1 with
  | str _ t => cases r2 with
    | str _ u => exact PyProof.Rows.ne_str (k _ (Grow.refl s))
theorem CmpJ.dne {d1 d2 : PyData} (h1 : SeqAt.shaped d1 = true := by rfl) (h2 : SeqAt.shaped d2 = true := by rfl) : CmpJ .NotEq (.py d1) (.py d2) (!PyData.eqv d1 d2) := by
  refine ⟨?_⟩
  intro w A s Q E v1 v2 as1 as2 F am r1 r2 k
  exact ne_dataH (RdV.reads r1) (RdV.reads r2) h1 h2 (by have := am.un; omega) (k _ (Grow.refl s))
theorem CmpJ.isNone {d : PyData} : CmpJ .Is (.py d) .none (match d with | .none => true | _ => false) := by
  refine ⟨?_⟩
  intro w A s Q E v1 v2 as1 as2 F am r1 r2 k
  cases r2 with
  | none =>
    refine PySem.is_none ?_
    have q := k s (Grow.refl s)
    cases r1 <;> exact q
theorem CmpJ.ins {x y : Str} : CmpJ .In (.str y) (.str x) (!(Builtin.Str.occurrences x y 0 x.length 1).isEmpty) := by
  refine ⟨?_⟩
  intro w A s Q E v1 v2 as1 as2 F am r1 r2 k
  cases r1 with
  | str _ t => cases r2 with
    | str _ u => exact PyProof.Rows.in_str (k _ (Grow.refl s))

theorem Ev.cmp {Γ : Fc} {ρ μ op e1 e2 d1 d2 b pos} (h1 : Ev Γ ρ μ e1 d1) (h2 : Ev Γ ρ μ e2 d2) (h : CmpJ op d1 d2 b) (hm : behindInMarks op e2 = false := by rfl) :
    Ev Γ ρ μ (.Compare e1 [op] [e2] pos) (.bool b) := ⟨fun s Q E S k => by
  refine wpAny_Compare1 (h1.run s _ E S fun v1 as1 s1 g1 r1 n1 => h2.run s1 _ E (S.grow g1) fun v2 as2 s2 g2 r2 n2 => ?_) hm
  have S2 := (S.grow g1).grow g2
  exact h.run Γ.w Γ.A s2 Q E v1 v2 as1 as2 Γ.F S2.amb (r1.keeps g2.1) r2 fun s' g => k _ [] s' (g1.trans (g2.trans g)) (RdV.bool _) (fun _ x => nomatch x)⟩

/-! ## truth -/
structure TruJ (d : D) (b : Bool) : Prop where
  run : ∀ (w : World) (A : Around) (s : Shared) (Q : Bool → Shared → Prop) (E : Value → Shared → Prop) (v : Value) (as F : List Addr), Amb w A F s → Rd F s.heap v d as →
    (∀ s', Grow s s' → Q b s') → wpAny (model PG w) A (truthy v) Q E s
theorem TruJ.eq {d b b'} (h : TruJ d b) (q : b = b') : TruJ d b' := q ▸ h
theorem TruJ.int {i : Int} : TruJ (.int i) (decide (i ≠ 0)) := ⟨fun w A s Q E v as F am r k => by
  cases r with
  | int _ t => exact PyProof.Rows.truthy_int (by rw [show (i != 0) = decide (i ≠ 0) from by by_cases h : i = 0 <;> simp [h]]; exact k _ (Grow.refl s))⟩
theorem TruJ.bool {b : Bool} : TruJ (.bool b) b := ⟨fun w A s Q E v as F am r k => by
  cases r with
  | bool _ => exact wpAny_truthy_bool (k _ (Grow.refl s))⟩
theorem TruJ.none : TruJ .none false := ⟨fun w A s Q E v as F am r k => by
  cases r with
  | none => exact PyProof.Rows.truthy_none (k _ (Grow.refl s))⟩

theorem EvT.of_value {Γ : Fc} {ρ μ e d b} (h : Ev Γ ρ μ e d) (t : TruJ d b)
    (he : ∀ whole, isTrue e Γ.env whole = (do let v ← whole; standAt e.pos; holding [v] (truthy v)) := by intro _; rfl) : EvT Γ ρ μ e b := ⟨fun s Q E S k => by
  refine wpAny_isTrue_value (h.run s _ E S fun v as s1 g r n => ?_) (he _)
  exact t.run Γ.w Γ.A s1 Q E v as Γ.F (S.grow g).amb r fun s' g' => k s' (g.trans g')⟩
theorem EvT.cmp {Γ : Fc} {ρ μ op e1 e2 d1 d2 b pos} (h1 : Ev Γ ρ μ e1 d1) (h2 : Ev Γ ρ μ e2 d2) (h : CmpJ op d1 d2 b) (hm : behindInMarks op e2 = false := by rfl) :
    EvT Γ ρ μ (.Compare e1 [op] [e2] pos) b := ⟨fun s Q E S k => by
  refine wpAny_isTrue_Compare1 (h1.run s _ E S fun v1 as1 s1 g1 r1 n1 => h2.run s1 _ E (S.grow g1) fun v2 as2 s2 g2 r2 n2 => ?_) hm
  have S2 := (S.grow g1).grow g2
  exact h.run Γ.w Γ.A s2 _ E v1 v2 as1 as2 Γ.F S2.amb (r1.keeps g2.1) r2 fun s' g => wpAny_truthy_bool (k s' (g1.trans (g2.trans g)))⟩
theorem EvT.not {Γ : Fc} {ρ μ e b pos} (h : EvT Γ ρ μ e b) : EvT Γ ρ μ (.UnaryOp .Not e pos) (!b) := ⟨fun s Q E S k =>
  wpAny_isTrue_Not (h.run s _ E S fun s' g => k s' g)⟩

structure EvAnd (Γ : Fc) (ρ : Loc) (μ : Mu) (op : BoolOp) (es : List Expr) (b : Bool) : Prop where
  run : ∀ (s : Shared) (Q : Bool → Shared → Prop) (E : Value → Shared → Prop), St Γ ρ μ s → (∀ s', Grow s s' → Q b s') → wpAny Γ.M Γ.A (allTrue op es Γ.env) Q E s
theorem EvAnd.and_nil {Γ ρ μ} : EvAnd Γ ρ μ .And [] true := ⟨fun s Q E S k => wpAny_allTrue_And_nil (k s (Grow.refl s))⟩
theorem EvAnd.or_nil {Γ ρ μ} : EvAnd Γ ρ μ .Or [] false := ⟨fun s Q E S k => wpAny_allTrue_Or_nil (k s (Grow.refl s))⟩
theorem EvAnd.and_cons {Γ ρ μ e es} {b c : Bool} (h : EvT Γ ρ μ e b) (h2 : b = true → EvAnd Γ ρ μ .And es c) : EvAnd Γ ρ μ .And (e :: es) (b && c) := ⟨fun s Q E S k => by
  refine wpAny_allTrue_And_cons (h.run s _ E S fun s1 g => ?_)
  cases b with
  | true => exact (h2 rfl).run s1 Q E (S.grow g) fun s' g' => k s' (g.trans g')
  | false => exact k s1 g⟩
theorem EvAnd.or_cons {Γ ρ μ e es} {b c : Bool} (h : EvT Γ ρ μ e b) (h2 : b = false → EvAnd Γ ρ μ .Or es c) : EvAnd Γ ρ μ .Or (e :: es) (b || c) := ⟨fun s Q E S k => by
  refine wpAny_allTrue_Or_cons (h.run s _ E S fun s1 g => ?_)
  cases b with
  | false => exact (h2 rfl).run s1 Q E (S.grow g) fun s' g' => k s' (g.trans g')
  | true => exact k s1 g⟩
theorem EvT.boolop {Γ : Fc} {ρ μ op es b pos} (h : EvAnd Γ ρ μ op es b) : EvT Γ ρ μ (.BoolOp op es pos) b := ⟨fun s Q E S k =>
  wpAny_isTrue_BoolOp (h.run s Q E S k)⟩

theorem Ev.ite {Γ : Fc} {ρ μ t e1 e2 pos} {b : Bool} {d : D} (h : EvT Γ ρ μ t b) (h1 : b = true → Ev Γ ρ μ e1 d) (h2 : b = false → Ev Γ ρ μ e2 d) : Ev Γ ρ μ (.IfExp t e1 e2 pos) d := ⟨fun s Q E S k => by
  refine wpAny_IfExp (h.run s _ E S fun s1 g => ?_)
  cases b with
  | true => exact (h1 rfl).run s1 Q E (S.grow g) fun v as s' g' r n => k v as s' (g.trans g') r n
  | false => exact (h2 rfl).run s1 Q E (S.grow g) fun v as s' g' r n => k v as s' (g.trans g') r n⟩
theorem Ev.neg {Γ : Fc} {ρ μ e pos} {i : Int} (h : Ev Γ ρ μ e (.int i)) : Ev Γ ρ μ (.UnaryOp .USub e pos) (.int (-i)) := ⟨fun s Q E S k => by
  refine wpAny_UnaryOp (h.run s _ E S fun v as s1 g r n => ?_)
  cases r with
  | int _ t => exact PyProof.Rows.neg_int (k _ [] _ (g.trans (Grow.tok s1 _)) (RdV.int _ _) (fun _ x => nomatch x))⟩
theorem Ev.not {Γ : Fc} {ρ μ e pos d} {b : Bool} (h : Ev Γ ρ μ e d) (t : TruJ d b) : Ev Γ ρ μ (.UnaryOp .Not e pos) (.bool (!b)) := ⟨fun s Q E S k => by
  refine wpAny_UnaryOp (h.run s _ E S fun v as s1 g r n => ?_)
  refine not_value (t.run Γ.w Γ.A s1 _ E v as Γ.F (S.grow g).amb r fun s2 g2 => k _ [] s2 (g.trans g2) (RdV.bool _) (fun _ x => nomatch x))⟩

/-! ### MC -/

theorem map_toNat_inj : ∀ {a b : List Char}, a.map Char.toNat = b.map Char.toNat → a = b
  | [], [], _ => rfl
  | [], _ :: _, h => nomatch h
  | _ :: _, [], h => nomatch h
  | x :: r, y :: t, h => by
    simp only [List.map_cons, List.cons.injEq] at h
    rw [Char.toNat_inj.mp h.1, map_toNat_inj h.2]
theorem ofString_inj {x y : String} (h : Str.ofString x = Str.ofString y) : x = y := by
  rw [Str.ofString_eq_toList, Str.ofString_eq_toList] at h
  have h1 : x.toList.map Char.toNat = y.toList.map Char.toNat := by
    have := congrArg (fun s : Str => s.cps.toList) h
    simpa using this
  exact String.toList_inj.mp (map_toNat_inj h1)

structure Kept (Γ : Fc) (μ : Mu) (s : Shared) (μ' : Mu) (s' : Shared) : Prop where
  keep : ∀ a o, s.heap.get? a = some o → a ∉ Γ.Z μ → (∀ x c, Γ.env.cells.lookup x = some c → a ≠ c) → s'.heap.get? a = some o
  ex : ∀ a o, s.heap.get? a = some o → ∃ o', s'.heap.get? a = some o'
  eq : ∃ h tk, s' = { s with heap := h, toks := tk }
  mu : ∀ a ∈ Γ.Z μ', a ∈ Γ.Z μ ∨ s.heap.get? a = none

theorem Kept.of_grow {Γ μ s s'} (g : Grow s s') : Kept Γ μ s μ s' := ⟨fun a o e _ _ => g.1 a o e, fun a o e => ⟨o, g.1 a o e⟩, g.2, fun a m => .inl m⟩
theorem Kept.refl {Γ μ s} : Kept Γ μ s μ s := .of_grow (Grow.refl s)
theorem Kept.trans {Γ μ μ' μ'' s s' s''} (x : Kept Γ μ s μ' s') (y : Kept Γ μ' s' μ'' s'') : Kept Γ μ s μ'' s'' where
  keep := fun a o e n c => y.keep a o (x.keep a o e n c) (fun m => by
    rcases x.mu a m with h | h
    · exact n h
    · rw [h] at e; cases e) c
  ex := fun a o e => let ⟨o', e'⟩ := x.ex a o e; y.ex a o' e'
  eq := by
    obtain ⟨h, tk, rfl⟩ := x.eq
    obtain ⟨h', tk', rfl⟩ := y.eq
    exact ⟨h', tk', rfl⟩
  mu := fun a m => by
    rcases y.mu a m with h | h
    · exact x.mu a h
    · cases q : s.heap.get? a with
      | none => exact .inr rfl
      | some o =>
        obtain ⟨o', e'⟩ := x.ex a o q
        rw [h] at e'; cases e'

def RetOk (Γ : Fc) (s s' : Shared) : Prop := Γ.h₀.StaysIn s'.heap ∧ ∃ h tk, s' = { s with heap := h, toks := tk }
theorem RetOk.of_kept {Γ μ μ' s s' s''} (x : Kept Γ μ s μ' s') (y : RetOk Γ s' s'') : RetOk Γ s s'' := by
  obtain ⟨k, h', tk', rfl⟩ := y
  obtain ⟨h, tk, rfl⟩ := x.eq
  exact ⟨k, h', tk', rfl⟩

def NextQ (Γ : Fc) (μ : Mu) (N : Loc → Mu → Prop) (s : Shared) (Q : Flow → Shared → Prop) : Prop := ∀ ρ' μ' s', N ρ' μ' → St Γ ρ' μ' s' → Kept Γ μ s μ' s' → Q .next s'
def RetQ (Γ : Fc) (R : D → Prop) (s : Shared) (Q : Flow → Shared → Prop) : Prop := ∀ v d as s', R d → Rd Γ.F s'.heap v d as → (∀ a ∈ as, Γ.h₀.get? a = none) → RetOk Γ s s' → Q (.ret v) s'
theorem RetQ.of_kept {Γ : Fc} {μ μ' R s s' Q} (x : Kept Γ μ s μ' s') (h : RetQ Γ R s Q) : RetQ Γ R s' Q := fun v d as s'' hR r n k => h v d as s'' hR r n (RetOk.of_kept x k)
theorem NextQ.of_kept {Γ : Fc} {μ μ' N s s' Q} (x : Kept Γ μ s μ' s') (h : NextQ Γ μ N s Q) : NextQ Γ μ' N s' Q := fun ρ'' μ'' s'' hN S k => h ρ'' μ'' s'' hN S (x.trans k)

structure Ex1 (Γ : Fc) (ρ : Loc) (μ : Mu) (st : Stmt) (N : Loc → Mu → Prop) (R : D → Prop) : Prop where
  run : ∀ (s : Shared) (Q : Flow → Shared → Prop) (E : Value → Shared → Prop), St Γ ρ μ s → NextQ Γ μ N s Q → RetQ Γ R s Q → wpAny Γ.M Γ.A (exec st Γ.env) Q E s
structure Ex (Γ : Fc) (ρ : Loc) (μ : Mu) (ss : List Stmt) (N : Loc → Mu → Prop) (R : D → Prop) : Prop where
  run : ∀ (s : Shared) (Q : Flow → Shared → Prop) (E : Value → Shared → Prop), St Γ ρ μ s → NextQ Γ μ N s Q → RetQ Γ R s Q → wpAny Γ.M Γ.A (execs ss Γ.env) Q E s
theorem Ex.nil {Γ : Fc} {ρ μ N R} (h : N ρ μ) : Ex Γ ρ μ [] N R := ⟨fun s Q E S k r => wpAny_execs_nil (k ρ μ s h S .refl)⟩
theorem Ex.cons {Γ : Fc} {ρ μ st rest N R} (h : Ex1 Γ ρ μ st (fun ρ' μ' => Ex Γ ρ' μ' rest N R) R) : Ex Γ ρ μ (st :: rest) N R := ⟨fun s Q E S k r => by
  refine wpAny_execs_cons (h.run s _ E S (fun ρ' μ' s' hN S' K => ?_) fun v d as s' hR rd n ok => ?_)
  · exact hN.run s' Q E S' (k.of_kept K) (r.of_kept K)
  · exact r v d as s' hR rd n ok⟩

theorem Ex.mono {Γ : Fc} {ρ μ ss} {N N' : Loc → Mu → Prop} {R} (h : Ex Γ ρ μ ss N R) (hn : ∀ ρ' μ', N ρ' μ' → N' ρ' μ') : Ex Γ ρ μ ss N' R := ⟨fun s Q E S k r =>
  h.run s Q E S (fun ρ' μ' s' hN => k ρ' μ' s' (hn _ _ hN)) r⟩
theorem Ex1.mono {Γ : Fc} {ρ μ ss} {N N' : Loc → Mu → Prop} {R} (h : Ex1 Γ ρ μ ss N R) (hn : ∀ ρ' μ', N ρ' μ' → N' ρ' μ') : Ex1 Γ ρ μ ss N' R := ⟨fun s Q E S k r =>
  h.run s Q E S (fun ρ' μ' s' hN => k ρ' μ' s' (hn _ _ hN)) r⟩

/-- forget or reorder locals -/
theorem StW.weaken {Γ : Fc} {ρ ρ' μ h m cm} (S : StW Γ ρ μ h m cm) (hl : ∀ x d, ρ'.lookup x = some d → ρ.lookup x = some d) : StW Γ ρ' μ h m cm :=
  ⟨S.ok, S.fr, S.cell, fun x d e => S.loc x d (hl x d e), S.mu, S.nod, S.forb⟩
theorem Ex.weaken {Γ : Fc} {ρ ρ' μ ss N R} (h : Ex Γ ρ' μ ss N R) (hl : ∀ x d, ρ'.lookup x = some d → ρ.lookup x = some d) : Ex Γ ρ μ ss N R := ⟨fun s Q E S k r =>
  h.run s Q E (let ⟨m, cm, W⟩ := S; ⟨m, cm, W.weaken hl⟩) k r⟩

/-! ## stores -/
def Stored (Γ : Fc) (x : String) : Prop := Γ.env.kindOf (Str.ofString x) = some .local ∨ (Γ.env.kindOf (Str.ofString x) = some .cell ∧ ∃ c, Γ.env.cells.lookup (Str.ofString x) = some c ∧ Γ.h₀.get? c = Option.none)

theorem Fc.var_local {Γ : Fc} {m m' cm : Str → Option Value} {x y : String} (h : x ≠ y) (hm : ∀ z, z ≠ Str.ofString y → m' z = m z) : Γ.var m' cm (Str.ofString x) = Γ.var m cm (Str.ofString x) := by
  unfold Fc.var
  rw [hm _ fun q => h (ofString_inj q)]
theorem Fc.var_cell {Γ : Fc} {m cm cm' : Str → Option Value} {x y : String} (h : x ≠ y) (hm : ∀ z, z ≠ Str.ofString y → cm' z = cm z) : Γ.var m cm' (Str.ofString x) = Γ.var m cm (Str.ofString x) := by
  unfold Fc.var
  rw [hm _ fun q => h (ofString_inj q)]

theorem St.store {Γ : Fc} {ρ μ s} {x : String} {v : Value} {d : D} {as : List Addr} {E : Value → Shared → Prop} {Q : Unit → Shared → Prop} (S : St Γ ρ μ s) (hx : Stored Γ x) (r : Rd Γ.F s.heap v d as) (n : ∀ a ∈ as, a ∉ Γ.Z μ)
    (k : ∀ s', St Γ ((x, d) :: ρ) μ s' → Kept Γ μ s μ s' → Q () s') : wpAny Γ.M Γ.A (storeName Γ.env (Str.ofString x) v) Q E s := by
  obtain ⟨m, cm, W⟩ := S
  have kd := W.ok.kind
  rcases hx with hl | ⟨hl, hc⟩
  · refine wpAny_storeName_local hl W.fr.ns (fun h' hn hs => ?_) (by rw [kd]; rfl)
    have tz : ∀ a o vs n, a = Γ.env.locals → a ∉ Γ.F → s.heap.get? a = some o → o.cls = .type "tuple" → o.data = .seq vs n → False := fun a o vs n q _ ho _ hd => by
      subst q
      obtain ⟨o', es, ep, ho', hd', _⟩ := W.fr.ns
      rw [ho] at ho'; cases ho'
      rw [hd] at hd'; cases hd'
    have tk : ∀ b o, s.heap.get? b = some o → ¬ b = Γ.env.locals → h'.get? b = some o := fun b o e q => (hs.2 b q).trans e
    refine k _ ⟨_, cm, W.ok, W.fr.set hn hs, fun y c e => (W.cell y c e).sameBut hs fun q => ?_, fun y d' e => ?_, fun a ds e => ?_, W.nod, fun a m => ?_⟩ ⟨fun a o e na _ => tk a o e fun q => na (q ▸ .head _), fun a o e => ?_, ⟨h', _, rfl⟩, fun a m => .inl m⟩
    · subst q
      obtain ⟨o, ho, hd⟩ := W.cell y _ e
      obtain ⟨o', es, ep, ho', hd', _⟩ := W.fr.ns
      rw [ho] at ho'; cases ho'
      rw [hd] at hd'; cases hd'
    · rw [List.lookup_cons] at e
      by_cases q : y = x
      · subst q
        rw [beq_self_eq_true] at e
        cases e
        refine ⟨v, as, ?_, r.off _ tz tk fun a ha q => n a ha (q ▸ .head _), n⟩
        unfold Fc.var
        rw [hl]
        simp
      · rw [show (y == x) = false from beq_eq_false_iff_ne.mpr q] at e
        obtain ⟨v', as', h1, h2, h3⟩ := W.loc y d' e
        refine ⟨v', as', ?_, h2.off _ tz tk fun a ha q => h3 a ha (q ▸ .head _), h3⟩
        rw [Fc.var_local q (y := x) (m := m)]
        · exact h1
        · intro z hz; simp [hz]
    · obtain ⟨vs, as', nn, ho, h2, h3, h4⟩ := W.mu a ds e
      refine ⟨vs, as', nn, tk a _ ho fun q => ?_, rdvs_off _ tz tk h2 fun b hb q => h3 b hb (q ▸ .head _), h3, h4⟩
      subst q
      obtain ⟨o', es, ep, ho', hd', _⟩ := W.fr.ns
      rw [ho] at ho'; cases ho'
      cases hd'
    · obtain ⟨o, e⟩ := W.forb a m
      by_cases q : a = Γ.env.locals
      · subst q
        obtain ⟨o', _, _, ho', _⟩ := hn
        exact ⟨o', ho'⟩
      · exact ⟨o, tk a o e q⟩
    · by_cases q : a = Γ.env.locals
      · subst q
        obtain ⟨o', _, _, ho', _⟩ := hn
        exact ⟨o', ho'⟩
      · exact ⟨o, tk a o e q⟩
  · obtain ⟨c, hc, hcn⟩ := hc
    refine wpAny_storeName_cell kd hl hc (W.cell _ c hc) fun h' hv hs => ?_
    obtain ⟨oc, hoc, hdc⟩ := W.cell _ c hc
    have tz : ∀ a o vs n, a = c → a ∉ Γ.F → s.heap.get? a = some o → o.cls = .type "tuple" → o.data = .seq vs n → False := fun a o vs n q _ ho _ hd => by
      subst q
      rw [hoc] at ho; cases ho
      rw [hd] at hdc; cases hdc
    have tk : ∀ b o, s.heap.get? b = some o → ¬ b = c → h'.get? b = some o := fun b o e q => (hs.2 b q).trans e
    have ka : ∀ a, IsLst s.heap a → a ≠ c := fun a ⟨o, vs, n, ho, _, hd⟩ q => by
      subst q
      rw [hoc] at ho; cases ho
      rw [hd] at hdc; cases hdc
    have hcL : c ≠ Γ.env.locals := fun q => by
      subst q
      obtain ⟨o', es, ep, ho', hd', _⟩ := W.fr.ns
      rw [hoc] at ho'; cases ho'
      rw [hdc] at hd'; cases hd'
    refine k _ ⟨m, fun z => if z = Str.ofString x then some v else cm z, W.ok, ⟨W.fr.ns.sameBut hs (Ne.symm hcL), fun b o e => ?_, W.fr.above⟩, fun y c' e => ?_, fun y d' e => ?_, fun a ds e => ?_, W.nod, fun a m => ?_⟩ ⟨fun a o e na nc => tk a o e fun q => nc _ c hc q, fun a o e => ?_, ⟨h', _, rfl⟩, fun a m => .inl m⟩
    · refine tk b o (W.fr.keep b o e) fun q => ?_
      subst q
      rw [hcn] at e; cases e
    · by_cases q : y = Str.ofString x
      · subst q
        rw [hc] at e; cases e
        simpa using hv
      · have : c' ≠ c := fun h => q (W.ok.apart _ _ c (h ▸ e) hc)
        simpa [q] using (W.cell y c' e).sameBut hs this
    · rw [List.lookup_cons] at e
      by_cases q : y = x
      · subst q
        rw [beq_self_eq_true] at e
        cases e
        refine ⟨v, as, ?_, r.off _ tz tk fun a ha q => ka a (r.kind a ha) q, n⟩
        unfold Fc.var
        rw [hl, hc]
        simp
      · rw [show (y == x) = false from beq_eq_false_iff_ne.mpr q] at e
        obtain ⟨v', as', h1, h2, h3⟩ := W.loc y d' e
        refine ⟨v', as', ?_, h2.off _ tz tk fun a ha q => ka a (h2.kind a ha) q, h3⟩
        rw [Fc.var_cell q (y := x) (cm := cm)]
        · exact h1
        · intro z hz; simp [hz]
    · obtain ⟨vs, as', nn, ho, h2, h3, h4⟩ := W.mu a ds e
      exact ⟨vs, as', nn, tk a _ ho (ka a ⟨_, _, _, ho, rfl, rfl⟩), rdvs_off _ tz tk h2 fun b hb q => ka b (rdvs_kind h2 b hb) q, h3, h4⟩
    · obtain ⟨o, e⟩ := W.forb a m
      by_cases q : a = c
      · subst q
        obtain ⟨o', ho', _⟩ := hv
        exact ⟨o', ho'⟩
      · exact ⟨o, tk a o e q⟩
    · by_cases q : a = c
      · subst q
        obtain ⟨o', ho', _⟩ := hv
        exact ⟨o', ho'⟩
      · exact ⟨o, tk a o e q⟩

/-! ### MD -/

/-! ## assignment targets -/
structure Asg (Γ : Fc) (t : Expr) (d : D) (ρ ρ' : Loc) : Prop where
  run : ∀ (μ : Mu) (s : Shared) (v : Value) (as : List Addr) (Q : Unit → Shared → Prop) (E : Value → Shared → Prop), St Γ ρ μ s → Rd Γ.F s.heap v d as → (∀ a ∈ as, a ∉ Γ.Z μ) →
    (∀ s', St Γ ρ' μ s' → Kept Γ μ s μ s' → Q () s') → wpAny Γ.M Γ.A (assign t Γ.env v) Q E s
theorem Asg.name {Γ : Fc} {x : String} {pos d ρ} (h : Stored Γ x) : Asg Γ (.Name (Str.ofString x) pos) d ρ ((x, d) :: ρ) := ⟨fun μ s v as Q E S r n k =>
  wpAny_assign_Name (S.store h r n k)⟩

theorem St.offs {Γ : Fc} {ρ μ μ' s s'} (S : St Γ ρ μ s) (K : Kept Γ μ s μ' s') :
    (∀ a o vs n, (a ∈ Γ.Z μ ∨ ∃ x c, Γ.env.cells.lookup x = some c ∧ a = c) → a ∉ Γ.F → s.heap.get? a = some o → o.cls = .type "tuple" → o.data = .seq vs n → False) ∧
    (∀ b o, s.heap.get? b = some o → ¬ (b ∈ Γ.Z μ ∨ ∃ x c, Γ.env.cells.lookup x = some c ∧ b = c) → s'.heap.get? b = some o) ∧
    (∀ a, IsLst s.heap a → a ∉ Γ.Z μ → ¬ (a ∈ Γ.Z μ ∨ ∃ x c, Γ.env.cells.lookup x = some c ∧ a = c)) := by
  obtain ⟨m, cm, W⟩ := S
  have cellK : ∀ x c, Γ.env.cells.lookup x = some c → ∀ o, s.heap.get? c = some o → ∀ vs nn, o.data ≠ .seq vs nn := fun x c e o ho vs nn hd => by
    obtain ⟨o', ho', hd'⟩ := W.cell x c e
    rw [ho] at ho'; cases ho'
    rw [hd] at hd'; cases hd'
  refine ⟨fun a o vs nn hz _ ho hc hd => ?_, fun b o e hz => K.keep b o e (fun q => hz (.inl q)) fun x c hx q => hz (.inr ⟨x, c, hx, q⟩), fun a hl n hz => ?_⟩
  · rcases hz with hz | ⟨x, c, hx, rfl⟩
    · rcases List.mem_cons.mp hz with rfl | hz
      · obtain ⟨o', es, ep, ho', hd', _⟩ := W.fr.ns
        rw [ho] at ho'; cases ho'
        rw [hd] at hd'; cases hd'
      · obtain ⟨p, hp, rfl⟩ := List.mem_map.mp hz
        obtain ⟨vs', as', nn', ho', _⟩ := W.mu p.1 p.2 hp
        rw [ho] at ho'; cases ho'
        exact absurd (show Value.type "list" = Value.type "tuple" from hc) (by decide)
    · exact cellK _ _ hx o ho vs nn hd
  · rcases hz with hz | ⟨x, c, hx, rfl⟩
    · exact n hz
    · obtain ⟨o, _, _, ho, _, hd⟩ := hl
      exact cellK _ _ hx o ho _ _ hd
theorem Rd.sameKept {Γ : Fc} {ρ μ μ' s s'} {v : Value} {d : D} {as : List Addr} (S : St Γ ρ μ s) (K : Kept Γ μ s μ' s') (r : Rd Γ.F s.heap v d as) (n : ∀ a ∈ as, a ∉ Γ.Z μ) : Rd Γ.F s'.heap v d as :=
  have ⟨h1, h2, h3⟩ := S.offs K
  r.off _ h1 h2 fun a ha => h3 a (r.kind a ha) (n a ha)
theorem readsAll_len {F : List Addr} {h : Heap} : ∀ {vs ds as}, RdVs F h vs ds as → vs.length = ds.length
  | _, _, _, .nil => rfl
  | _, _, _, .cons _ r => by simp [readsAll_len r]
theorem RdVs.sameKept {Γ : Fc} {ρ μ μ' s s'} {vs : List Value} {ds : List PyData} {as : List Addr} (S : St Γ ρ μ s) (K : Kept Γ μ s μ' s') (r : RdVs Γ.F s.heap vs ds as) (n : ∀ a ∈ as, a ∉ Γ.Z μ) : RdVs Γ.F s'.heap vs ds as :=
  have ⟨h1, h2, h3⟩ := S.offs K
  rdvs_off _ h1 h2 r fun a ha => h3 a (rdvs_kind r a ha) (n a ha)

inductive AsgAll (Γ : Fc) : List Expr → List PyData → Loc → Loc → Prop where
  | nil {ρ} : AsgAll Γ [] [] ρ ρ
  | cons {e es d ds ρ ρ' ρ''} : Asg Γ e (.py d) ρ ρ' → (∀ rest, assignEach (e :: rest) Γ.env = (false, assign e Γ.env) :: assignEach rest Γ.env) → AsgAll Γ es ds ρ' ρ'' → AsgAll Γ (e :: es) (d :: ds) ρ ρ''

theorem AsgAll.len {Γ es ds ρ ρ'} (h : AsgAll Γ es ds ρ ρ') : (assignEach es Γ.env).length = ds.length := by
  induction h with
  | nil => rfl
  | cons _ he _ ih => rw [he]; simp [ih]
theorem AsgAll.star {Γ es ds ρ ρ'} (h : AsgAll Γ es ds ρ ρ') : (assignEach es Γ.env).findIdx? (·.1) = none := by
  induction h with
  | nil => rfl
  | cons _ he _ ih => rw [he]; simp [List.findIdx?_cons, ih]

theorem AsgAll.run {Γ : Fc} {es ds ρ ρ'} (h : AsgAll Γ es ds ρ ρ') : ∀ (μ : Mu) (s : Shared) (vs : List Value) (as : List Addr) (Q : Unit → Shared → Prop) (E : Value → Shared → Prop), St Γ ρ μ s → RdVs Γ.F s.heap vs ds as → (∀ a ∈ as, a ∉ Γ.Z μ) →
    (∀ s', St Γ ρ' μ s' → Kept Γ μ s μ s' → Q () s') → wpAny Γ.M Γ.A (assignInOrder ((assignEach es Γ.env).map (·.2)) vs) Q E s := by
  induction h with
  | nil =>
    intro μ s vs as Q E S r n k
    exact assignInOrder_nil (k s S .refl)
  | @cons e es d ds ρ ρ₁ ρ₂ h1 he _ ih =>
    intro μ s vs as Q E S r n k
    cases r with
    | @cons v vs _ _ as bs r1 r2 =>
      rw [he]
      refine assignInOrder_cons (h1.run μ s v as _ E S r1 (fun a ha => n a (List.mem_append_left _ ha)) fun s1 S1 K1 => ?_)
      have r2' : RdVs Γ.F s1.heap vs ds bs := RdVs.sameKept S K1 r2 fun a ha => n a (List.mem_append_right _ ha)
      exact ih μ s1 vs bs Q E S1 r2' (fun a ha => n a (List.mem_append_right _ ha)) fun s' S' K' => k s' S' (K1.trans K')

theorem Asg.tuple {Γ : Fc} {es k pos ds ρ ρ'} (h : AsgAll Γ es ds ρ ρ') : Asg Γ (.Tuple es k pos) (.tup ds) ρ ρ' := ⟨fun μ s v as Q E S r n kk => by
  have am := S.amb
  cases r with
  | @tuple a o vs nn _ _ ho hc hd hF hr =>
    have hl : vs.size = ds.length := by simpa using readsAll_len hr
    refine assign_Tuple_tuple am.hnd ⟨o, ho, hc, nn, hd⟩ (by rw [h.len, hl]) h.star fun h' he => ?_
    have g : s.heap.StaysIn h' := fun b ob e => he b ob (Nat.ne_of_lt (Heap.lt_size e)) e
    have G : Grow s { s with heap := h' } := ⟨g, h', s.toks, rfl⟩
    exact h.run μ _ _ _ Q E (S.grow G) (RdVs.keeps g hr) n fun s' S' K => kk s' S' ((Kept.of_grow G).trans K)⟩

/-! ## displays -/
theorem St.newF {Γ : Fc} {ρ μ s} (S : St Γ ρ μ s) : s.heap.objs.size ∉ Γ.F := fun m => by
  obtain ⟨_, _, W⟩ := S
  obtain ⟨o, e⟩ := W.forb _ m
  exact Nat.lt_irrefl _ (Heap.lt_size e)
structure EvAll (Γ : Fc) (ρ : Loc) (μ : Mu) (es : List Expr) (ds : List PyData) : Prop where
  run : ∀ (pos : Pos) (s : Shared) (Q : List Value → Shared → Prop) (E : Value → Shared → Prop), St Γ ρ μ s →
    (∀ vs as s', Grow s s' → RdVs Γ.F s'.heap vs ds as → (∀ a ∈ as, a ∉ Γ.Z μ) → Q vs s') → wpAny Γ.M Γ.A (spliced (backTo pos (starEach es Γ.env))) Q E s
theorem EvAll.nil {Γ ρ μ} : EvAll Γ ρ μ [] [] := ⟨fun pos s Q E S k => wpAny_items_nil (k [] [] s (Grow.refl s) .nil (fun _ x => nomatch x))⟩
theorem EvAll.cons {Γ : Fc} {ρ μ e es d ds} (h : Ev Γ ρ μ e (.py d)) (h2 : EvAll Γ ρ μ es ds) (he : ∀ rest, starEach (e :: rest) Γ.env = (false, eval e Γ.env) :: starEach rest Γ.env := by intro _; rfl) : EvAll Γ ρ μ (e :: es) (d :: ds) := ⟨fun pos s Q E S k => by
  refine wpAny_items_cons (h.run s _ E S fun v as s1 g r n => ?_) (he _)
  exact h2.run pos s1 _ E (S.grow g) fun vs bs s2 g2 r2 n2 => k (v :: vs) (as ++ bs) s2 (g.trans g2) (.cons (RdV.keeps g2.1 r) r2) fun a ha => (List.mem_append.mp ha).elim (n a) (n2 a)⟩
theorem Ev.tuple {Γ : Fc} {ρ μ es ds k pos} (h : EvAll Γ ρ μ es ds) (hl : ds.length ≤ 16777216 := by decide) : Ev Γ ρ μ (.Tuple es k pos) (.tup ds) := ⟨fun s Q E S kk => by
  refine wpAny_Tuple (h.run pos s _ E S fun vs as s1 g r n => ⟨by rw [sizeLine_eq, readsAll_len r]; exact hl, ?_⟩)
  have g2 := Grow.push s1 { cls := .type "tuple", data := .seq vs.toArray }
  have S1 := S.grow g
  exact kk _ as _ (g.trans g2) (RdV.tuple (Heap.get?_push_size _ rfl) rfl rfl S1.newF (RdVs.keeps g2.1 r)) n⟩
theorem Ev.list {Γ : Fc} {ρ μ es ds pos} (h : EvAll Γ ρ μ es ds) (hl : ds.length ≤ 16777216 := by decide) : Ev Γ ρ μ (.List es pos) (.lst ds) := ⟨fun s Q E S kk => by
  refine wpAny_List (h.run pos s _ E S fun vs as s1 g r n => ⟨by rw [sizeLine_eq, readsAll_len r]; exact hl, ?_⟩)
  have g2 := Grow.push s1 { cls := .type "list", data := .seq vs.toArray }
  have S1 := S.grow g
  refine kk _ (s1.heap.objs.size :: as) _ (g.trans g2) (RdV.list (Heap.get?_push_size _ rfl) rfl rfl (RdVs.keeps g2.1 r)) fun a ha => ?_
  rcases List.mem_cons.mp ha with rfl | ha
  · exact S1.fresh (as := [_]) (by intro a m; rw [List.mem_singleton.mp m]; exact Heap.get?_none_of_le (Nat.le_refl _)) _ (.head _)
  · exact n a ha⟩

/-! ## arguments, calls -/
structure EvA (Γ : Fc) (ρ : Loc) (μ : Mu) (e : Expr) (d : D) : Prop where
  run : ∀ (s : Shared) (Q : Value → Shared → Prop) (E : Value → Shared → Prop), St Γ ρ μ s →
    (∀ v as s', Grow s s' → Rd Γ.F s'.heap v d as → Q v s') → wpAny Γ.M Γ.A (eval e Γ.env) Q E s
theorem EvA.of {Γ ρ μ e d} (h : Ev Γ ρ μ e d) : EvA Γ ρ μ e d := ⟨fun s Q E S k => h.run s Q E S fun v as s' g r _ => k v as s' g r⟩
theorem EvA.own {Γ : Fc} {ρ μ a ds pos} {x : String} (h : Ev Γ ρ μ (.Name (Str.ofString x) pos) (.val (.ref a))) (hm : (a, ds) ∈ μ) : EvA Γ ρ μ (.Name (Str.ofString x) pos) (.lst ds) := ⟨fun s Q E S k =>
  h.run s Q E S fun v as s' g r _ => by
    obtain ⟨m, cm, W⟩ := S.grow g
    obtain ⟨vs, as', n, ho, hr, _⟩ := W.mu a ds hm
    obtain ⟨rfl, _⟩ := r
    exact k _ (a :: as') s' g (RdV.list ho rfl rfl hr)⟩

inductive RdArgs (F : List Addr) (h : Heap) : List Value → List D → Prop where
  | nil : RdArgs F h [] []
  | cons {v d vs ds as} : Rd F h v d as → RdArgs F h vs ds → RdArgs F h (v :: vs) (d :: ds)
theorem RdArgs.keeps {F : List Addr} {h h' : Heap} (k : h.StaysIn h') {vs ds} (r : RdArgs F h vs ds) : RdArgs F h' vs ds := by
  induction r with
  | nil => exact .nil
  | cons r _ ih => exact .cons (r.keeps k) ih
structure EvArgs (Γ : Fc) (ρ : Loc) (μ : Mu) (es : List Expr) (ds : List D) : Prop where
  run : ∀ (pos : Pos) (s : Shared) (Q : List Value → Shared → Prop) (E : Value → Shared → Prop), St Γ ρ μ s →
    (∀ vs s', Grow s s' → RdArgs Γ.F s'.heap vs ds → Q vs s') → wpAny Γ.M Γ.A (spliced (backTo pos (starEach es Γ.env))) Q E s
theorem EvArgs.nil {Γ ρ μ} : EvArgs Γ ρ μ [] [] := ⟨fun pos s Q E S k => wpAny_items_nil (k [] s (Grow.refl s) .nil)⟩
theorem EvArgs.cons {Γ : Fc} {ρ μ e es d ds} (h : EvA Γ ρ μ e d) (h2 : EvArgs Γ ρ μ es ds) (he : ∀ rest, starEach (e :: rest) Γ.env = (false, eval e Γ.env) :: starEach rest Γ.env := by intro _; rfl) : EvArgs Γ ρ μ (e :: es) (d :: ds) := ⟨fun pos s Q E S k => by
  refine wpAny_items_cons (h.run s _ E S fun v as s1 g r => ?_) (he _)
  exact h2.run pos s1 _ E (S.grow g) fun vs s2 g2 r2 => k (v :: vs) s2 (g.trans g2) (.cons (r.keeps g2.1) r2)⟩

structure CallJ (n : Nat) (f : Value) (ds : List D) (d : D) : Prop where
  run : ∀ (w : World) (mg mb : Str → Option Value) (A : Around) (s : Shared) (vs : List Value) (F : List Addr) (Q : Value → Shared → Prop) (E : Value → Shared → Prop), Gd w mg mb s.heap → (∀ a ∈ F, ∃ o, s.heap.get? a = some o) → A.depth + n < recursionLimit → A.units + 4 * n + 80 < cLine → A.handled = none →
    RdArgs F s.heap vs ds → (∀ v as s', Grow s s' → Rd F s'.heap v d as → (∀ a ∈ as, s.heap.get? a = none) → Q v s') → wpAny (model PG w) A (call f vs) Q E s
theorem CallJ.eq {n f ds d d'} (h : CallJ n f ds d) (q : d = d') : CallJ n f ds d' := q ▸ h
theorem CallJ.le {n n' f ds d} (h : CallJ n f ds d) (q : n ≤ n') : CallJ n' f ds d := ⟨fun w mg mb A s vs F Q E G hF hd hu hh r k => h.run w mg mb A s vs F Q E G hF (by omega) (by omega) hh r k⟩

/-- what may be called: a built-in, or a def of the text's -/
def Callee (f : Value) : Prop := (∃ id, f = .builtin id) ∨ (∃ T, f = .type T) ∨ ∃ a o fd, f = .ref a ∧ (∀ P, (hd.heap_39 P).lookup a = some o) ∧ o.data = .func fd

theorem Ev.callG {Γ : Fc} {ρ μ x p f args kw ds d pos} (hf : Ev Γ ρ μ (.Name x p) (.val f)) (hc : Callee f) (ha : EvArgs Γ ρ μ args ds) (h : CallJ Γ.n f ds d) (hk : args ≠ [])
    (hstar : ∀ r, (backTo r (starEach args Γ.env)).any (·.1) = false := by intro _; rfl) (hfirst : ∃ e rest, args = e :: rest ∧ starEach args Γ.env = (false, eval e Γ.env) :: starEach rest Γ.env := by exact ⟨_, _, rfl, rfl⟩) (hkw : kw = [] := by rfl) : Ev Γ ρ μ (.Call (.Name x p) args kw pos) d := ⟨fun s Q E S k => by
  subst hkw
  refine wpAny_Call_Name_kw (hf.run s _ E S fun v as s1 g r _ => ?_)
  obtain ⟨rfl, _⟩ := r
  have S1 := S.grow g
  have fin : ∀ vs s2, Grow s1 s2 → RdArgs Γ.F s2.heap vs ds → wpAny Γ.M Γ.A (call v vs) Q E s2 := fun vs s2 g2 r2 => by
    have S2 := S1.grow g2
    obtain ⟨m, cm, W⟩ := id S2
    exact h.run Γ.w Γ.mg Γ.mb Γ.A s2 vs Γ.F Q E W.gd W.forb W.ok.dep W.ok.un W.ok.hnd r2 fun v as s' g' r n => k v as s' (g.trans (g2.trans g')) r (S2.fresh n)
  obtain ⟨e, rest, rfl, hst⟩ := hfirst
  rcases hc with ⟨id, rfl⟩ | ⟨T, rfl⟩ | ⟨a, o, fd, rfl, hK, hd⟩
  · refine callWith_builtin (hstar _) ?_
    rw [hst]
    show wpAny _ _ (evalArgs _ true ((false, _) :: _) []) _ E s1
    refine evalArgs_plain ?_
    have := ha.run pos s1 (fun vs s' => wpAny Γ.M Γ.A (call (.builtin id) ([] ++ vs) []) Q E s') E S1 fun vs s2 g2 r2 => fin vs s2 g2 r2
    rw [hst] at this
    exact this
  · refine PyProof.Rows.callWith_type (hstar _) ?_
    rw [hst]
    show wpAny _ _ (evalArgs _ true ((false, _) :: _) []) _ E s1
    refine evalArgs_plain ?_
    have := ha.run pos s1 (fun vs s' => wpAny Γ.M Γ.A (call (.type T) ([] ++ vs) []) Q E s') E S1 fun vs s2 g2 r2 => fin vs s2 g2 r2
    rw [hst] at this
    exact this
  · refine callWith_function (o := o) (fd := fd) ?_
    rw [hst]
    show wpAny _ _ (evalArgs _ true ((false, _) :: _) []) _ E s1
    refine evalArgs_plain ?_
    have := ha.run pos s1 (fun vs s' => (s'.heap.get? a = some o ∧ o.data = .func fd) ∧ wpAny Γ.M Γ.A (call (.ref a) ([] ++ vs) []) Q E s') E S1 fun vs s2 g2 r2 => by
      obtain ⟨m, cm, W⟩ := S1.grow g2
      exact ⟨⟨W.gd.kin _ _ (hK _), hd⟩, fin vs s2 g2 r2⟩
    rw [hst] at this
    exact this⟩

/-! ### ME -/

/-! ## statements -/
theorem Ex1.assign {Γ : Fc} {ρ μ e d pos' pos N R} {x : String} (h : Ev Γ ρ μ e d) (hx : Stored Γ x) (k : N ((x, d) :: ρ) μ)
    (hs : swapsWith e (some (.Name (Str.ofString x) pos')) pos.line Γ.env = pure false := by rfl) : Ex1 Γ ρ μ (.Assign [.Name (Str.ofString x) pos'] e pos) N R := ⟨fun s Q E S kn kr => by
  refine wpAny_Assign_Name (h.run s _ E S fun v as s1 g r n => ?_) hs
  refine (S.grow g).store hx r n fun s2 S2 K2 => ?_
  exact kn _ _ s2 k S2 ((Kept.of_grow g).trans K2)⟩
theorem Ex1.unpack {Γ : Fc} {ρ ρ' μ e ds elts k tpos pos N R} (h : Ev Γ ρ μ e (.tup ds)) (ha : AsgAll Γ elts ds ρ ρ') (kk : N ρ' μ)
    (hs : swapsWithSole [.Tuple elts k tpos] e pos.line Γ.env = pure false := by rfl)
    (hw : swappedStores [.Tuple elts k tpos] e Γ.env = pure none := by rfl) : Ex1 Γ ρ μ (.Assign [.Tuple elts k tpos] e pos) N R := ⟨fun s Q E S kn kr => by
  refine Assign_Tuple (h.run s _ E S fun v as s1 g r n => ?_) hs hw
  refine (Asg.tuple ha).run μ s1 v as _ E (S.grow g) r n fun s2 S2 K2 => ?_
  exact kn _ _ s2 kk S2 ((Kept.of_grow g).trans K2)⟩

structure IopJ (op : Operator) (d1 d2 d : D) : Prop where
  run : ∀ (w : World) (A : Around) (s : Shared) (Q : Value → Shared → Prop) (E : Value → Shared → Prop) (v1 v2 : Value) (as1 as2 F : List Addr), Amb w A F s → Rd F s.heap v1 d1 as1 → Rd F s.heap v2 d2 as2 →
    (∀ v as s', Grow s s' → Rd F s'.heap v d as → (∀ a ∈ as, s.heap.get? a = none) → Q v s') → wpAny (model PG w) A (inplaceOp op v1 v2) Q E s
theorem IopJ.add {a b : Int} : IopJ .Add (.int a) (.int b) (.int (a + b)) := ⟨fun w A s Q E v1 v2 as1 as2 F am r1 r2 k => by
  cases r1 with
  | int _ t => cases r2 with
    | int _ u => exact P.iadd_int (k _ [] _ (Grow.tok s _) (RdV.int _ _) none_fresh)⟩
theorem IopJ.sub {a b : Int} : IopJ .Sub (.int a) (.int b) (.int (a - b)) := ⟨fun w A s Q E v1 v2 as1 as2 F am r1 r2 k => by
  cases r1 with
  | int _ t => cases r2 with
    | int _ u => exact P.isub_int (k _ [] _ (Grow.tok s _) (RdV.int _ _) none_fresh)⟩

theorem Ex1.aug {Γ : Fc} {ρ μ op e d0 d1 d pos' pos N R} {x : String} (h0 : ρ.lookup x = some d0) (h : Ev Γ ρ μ e d1) (hop : IopJ op d0 d1 d) (hx : Stored Γ x) (k : N ((x, d) :: ρ) μ)
    : Ex1 Γ ρ μ (.AugAssign (.Name (Str.ofString x) pos') op e pos) N R := ⟨fun s Q E S kn kr => by
  obtain ⟨m, cm, W⟩ := id S
  obtain ⟨v0, as0, hv, hr, ha⟩ := W.loc x d0 h0
  have kd := W.ok.kind
  have fin : wpAny Γ.M Γ.A (eval e Γ.env) (fun v s₂ => wpAny Γ.M Γ.A (inplaceOp op v0 v) (fun r s₃ => wpAny Γ.M Γ.A (storeName Γ.env (Str.ofString x) r) (fun _ => Q .next) E s₃) E s₂) E s := by
    refine h.run s _ E S fun v as s1 g r n => ?_
    have S1 := S.grow g
    refine hop.run Γ.w Γ.A s1 _ E v0 v as0 as Γ.F S1.amb (hr.keeps g.1) r fun v' as' s2 g2 r2 n2 => ?_
    have S2 := S1.grow g2
    refine S2.store hx r2 (fun a ha hz => by
      obtain ⟨o, ho⟩ := S1.mu_some hz
      rw [n2 a ha] at ho; cases ho) fun s3 S3 K3 => ?_
    exact kn _ _ s3 k S3 ((Kept.of_grow (g.trans g2)).trans K3)
  refine wpAny_AugAssign_Name ?_
  unfold Fc.var at hv
  rcases hx with hl | ⟨hl, hc⟩
  · rw [hl] at hv; exact wpAny_loadName_local kd hl W.fr.ns hv fin
  · obtain ⟨c, hc, _⟩ := hc
    rw [hl, hc] at hv; exact wpAny_loadName_cell kd hl hc ((show cm _ = some v0 from hv) ▸ W.cell _ c hc) fin⟩

theorem Ex1.ite {Γ : Fc} {ρ μ t b1 b2 pos N R} {b : Bool} (h : EvT Γ ρ μ t b) (h1 : b = true → Ex Γ ρ μ b1 N R) (h2 : b = false → Ex Γ ρ μ b2 N R) : Ex1 Γ ρ μ (.If t b1 b2 pos) N R := ⟨fun s Q E S kn kr => by
  refine wpAny_If (h.run s _ E S fun s1 g => ?_)
  have K := Kept.of_grow (Γ := Γ) (μ := μ) g
  cases b with
  | true => exact (h1 rfl).run s1 Q E (S.grow g) (kn.of_kept K) (kr.of_kept K)
  | false => exact (h2 rfl).run s1 Q E (S.grow g) (kn.of_kept K) (kr.of_kept K)⟩

/-- data without a list or a dict -/
inductive Plain : PyData → Prop where
  | none : Plain .none
  | bool (b) : Plain (.bool b)
  | int (i) : Plain (.int i)
  | str (x) : Plain (.str x)
  | tup {l} : (∀ d ∈ l, Plain d) → Plain (.tuple l)
mutual
theorem reads_plain {F : List Addr} {h : Heap} : ∀ {v : Value} {d : PyData} {as : List Addr}, RdV F h v d as → Plain d → as = []
  | _, _, _, .none, _ => rfl
  | _, _, _, .bool _, _ => rfl
  | _, _, _, .int _ _, _ => rfl
  | _, _, _, .str _ _, _ => rfl
  | _, _, _, .list _ _ _ _, p => nomatch p
  | _, _, _, .tuple _ _ _ _ hr, p => readsAll_plain hr (by cases p with | tup p => exact p)
theorem readsAll_plain {F : List Addr} {h : Heap} : ∀ {vs : List Value} {ds : List PyData} {as : List Addr}, RdVs F h vs ds as → (∀ d ∈ ds, Plain d) → as = []
  | _, _, _, .nil, _ => rfl
  | _, _, _, .cons h1 h2, p => by rw [reads_plain h1 (p _ (.head _)), readsAll_plain h2 fun d m => p d (.tail _ m)]; rfl
end
theorem St.ret {Γ : Fc} {ρ μ s s'} (S : St Γ ρ μ s') (q : ∃ h tk, s' = { s with heap := h, toks := tk }) : RetOk Γ s s' := by
  obtain ⟨m, cm, W⟩ := S
  exact ⟨W.fr.keep, q⟩
theorem Ex1.ret {Γ : Fc} {ρ μ e pos N R} {d : PyData} (h : Ev Γ ρ μ e (.py d)) (hR : R (.py d)) (hp : Plain d) : Ex1 Γ ρ μ (.Return (some e) pos) N R := ⟨fun s Q E S kn kr => by
  refine wpAny_Return_some (h.run s _ E S fun v as s1 g r n => ?_)
  have e0 : as = [] := reads_plain r hp
  subst e0
  exact kr v _ _ s1 hR r (fun _ x => nomatch x) ((S.grow g).ret g.2)⟩
theorem Ex1.retList {Γ : Fc} {ρ μ es pos pos' N R} {ds : List PyData} (h : EvAll Γ ρ μ es ds) (hR : R (.lst ds)) (hp : ∀ d ∈ ds, Plain d) (hl : ds.length ≤ 16777216 := by decide) : Ex1 Γ ρ μ (.Return (some (.List es pos')) pos) N R := ⟨fun s Q E S kn kr => by
  refine wpAny_Return_some ?_
  refine wpAny_List (h.run pos' s _ E S fun vs as s1 g r n => ⟨by rw [sizeLine_eq, readsAll_len r]; exact hl, ?_⟩)
  have g2 := Grow.push s1 { cls := .type "list", data := .seq vs.toArray }
  have e0 : as = [] := readsAll_plain r hp
  subst e0
  have S1 := S.grow g
  have S2 := S1.grow g2
  refine kr _ _ [s1.heap.objs.size] _ hR (RdV.list (Heap.get?_push_size _ rfl) rfl rfl (RdVs.keeps g2.1 r)) (fun a m => ?_) (S2.ret (g.trans g2).2)
  rw [List.mem_singleton.mp m]
  obtain ⟨m, cm, W⟩ := S1
  exact W.fr.fresh⟩
theorem Ex1.assert {Γ : Fc} {ρ μ t m pos N R} (h : EvT Γ ρ μ t true) (k : N ρ μ) : Ex1 Γ ρ μ (.Assert t m pos) N R := ⟨fun s Q E S kn kr =>
  wpAny_Assert_holds (h.run s _ E S fun s1 g => ⟨rfl, kn _ _ s1 k (S.grow g) (Kept.of_grow g)⟩)⟩

/-! ## lists of the frame's own -/
theorem Ex1.newList {Γ : Fc} {ρ μ pos' pos pe N R} {x : String} (hx : Stored Γ x) (k : ∀ a, N ((x, .val (.ref a)) :: ρ) ((a, []) :: μ))
    (hs : swapsWith (.List [] pe) (some (.Name (Str.ofString x) pos')) pos.line Γ.env = pure false := by rfl) : Ex1 Γ ρ μ (.Assign [.Name (Str.ofString x) pos'] (.List [] pe) pos) N R := ⟨fun s Q E S kn kr => by
  refine wpAny_Assign_Name ?_ hs
  refine wpAny_List (wpAny_items_nil ⟨by rw [sizeLine_eq]; decide, ?_⟩)
  have g := Grow.push s { cls := .type "list", data := .seq #[] }
  have S1 := S.grow g
  have fresh : s.heap.get? s.heap.objs.size = none := Heap.get?_none_of_le (Nat.le_refl _)
  have S2 : St Γ ρ ((s.heap.objs.size, []) :: μ) { s with heap := s.heap.push { cls := .type "list", data := .seq #[] } } := by
    obtain ⟨m, cm, W⟩ := S
    have W1 := W.keeps g.1
    have nz : ∀ b, IsLst s.heap b → b ≠ s.heap.objs.size := fun b ⟨o, _, _, ho, _⟩ q => by rw [q, fresh] at ho; cases ho
    refine ⟨m, cm, W1.ok, W1.fr, W1.cell, fun y d e => ?_, fun a ds hm => ?_, ?_, W1.forb⟩
    · obtain ⟨v, as, h1, h2, h3⟩ := W.loc y d e
      refine ⟨v, as, h1, h2.keeps g.1, fun a ha hz => ?_⟩
      rcases List.mem_cons.mp hz with rfl | hz
      · exact h3 _ ha (.head _)
      · rcases List.mem_cons.mp hz with rfl | hz
        · exact nz _ (h2.kind _ ha) rfl
        · exact h3 a ha (.tail _ hz)
    · rcases List.mem_cons.mp hm with q | hm
      · cases q
        refine ⟨[], [], 0, Heap.get?_push_size _ rfl, .nil, (fun _ x => nomatch x), W.fr.fresh⟩
      · obtain ⟨vs, as, nn, h1, h2, h3, h4⟩ := W.mu a ds hm
        refine ⟨vs, as, nn, g.1 _ _ h1, RdVs.keeps g.1 h2, fun b hb hz => ?_, h4⟩
        rcases List.mem_cons.mp hz with rfl | hz
        · exact h3 _ hb (.head _)
        · rcases List.mem_cons.mp hz with rfl | hz
          · exact nz _ (rdvs_kind h2 _ hb) rfl
          · exact h3 b hb (.tail _ hz)
    · show (s.heap.objs.size :: μ.map Prod.fst).Nodup
      refine List.nodup_cons.mpr ⟨fun hm => ?_, W.nod⟩
      obtain ⟨p, hp, q⟩ := List.mem_map.mp hm
      obtain ⟨vs, as, nn, h1, _⟩ := W.mu p.1 p.2 hp
      rw [q, fresh] at h1; cases h1
  refine S2.store (d := .val (.ref s.heap.objs.size)) (as := []) hx ⟨rfl, rfl⟩ (fun _ x => nomatch x) fun s3 S3 K3 => ?_
  refine kn _ _ s3 (k _) S3 (Kept.trans (μ' := (s.heap.objs.size, []) :: μ) ⟨fun a o e _ _ => g.1 a o e, fun a o e => ⟨o, g.1 a o e⟩, ⟨_, s.toks, rfl⟩, fun a m => ?_⟩ K3)
  rcases List.mem_cons.mp m with rfl | m
  · exact .inl (.head _)
  · rcases List.mem_cons.mp m with rfl | m
    · exact .inr fresh
    · exact .inl (.tail _ m)⟩

/-- a list of one's own, filled, becomes plain data -/
theorem Ex.freeze {Γ : Fc} {ρ μ₁ μ₂ a ds ss N R} {x : String} (hx : ρ.lookup x = some (.val (.ref a))) (h : Ex Γ ((x, .lst ds) :: ρ) (μ₁ ++ μ₂) ss N R) : Ex Γ ρ (μ₁ ++ (a, ds) :: μ₂) ss N R := ⟨fun s Q E S kn kr => by
  have sub : ∀ b, b ∈ Mu.as (μ₁ ++ μ₂) → b ∈ Mu.as (μ₁ ++ (a, ds) :: μ₂) := fun b hb => by
    simp only [Mu.as, List.map_append, List.map_cons, List.mem_append, List.mem_cons] at hb ⊢
    rcases hb with hb | hb
    · exact .inl hb
    · exact .inr (.inr hb)
  have subZ : ∀ b, b ∈ Γ.Z (μ₁ ++ μ₂) → b ∈ Γ.Z (μ₁ ++ (a, ds) :: μ₂) := fun b hb => by
    rcases List.mem_cons.mp hb with rfl | hb
    · exact .head _
    · exact .tail _ (sub b hb)
  have S' : St Γ ((x, .lst ds) :: ρ) (μ₁ ++ μ₂) s := by
    obtain ⟨m, cm, W⟩ := S
    refine ⟨m, cm, W.ok, W.fr, W.cell, fun y d e => ?_, fun b es hm => ?_, ?_, W.forb⟩
    · rw [List.lookup_cons] at e
      by_cases q : y = x
      · subst q
        rw [beq_self_eq_true] at e
        cases e
        obtain ⟨v, as, h1, h2, h3⟩ := W.loc y _ hx
        obtain ⟨rfl, rfl⟩ := h2
        obtain ⟨vs, as', nn, k1, k2, k3, k4⟩ := W.mu a ds (List.mem_append_right _ (.head _))
        refine ⟨_, a :: as', h1, RdV.list k1 rfl rfl k2, fun b hb hz => ?_⟩
        rcases List.mem_cons.mp hb with rfl | hb
        · rcases List.mem_cons.mp hz with rfl | hz
          · obtain ⟨o', es, ep, ho', hd', _⟩ := W.fr.ns
            rw [k1] at ho'; cases ho'
            cases hd'
          · have nd : (μ₁.map Prod.fst ++ b :: μ₂.map Prod.fst).Nodup := by simpa [Mu.as] using W.nod
            have := (List.perm_middle.nodup_iff.mp nd)
            exact (List.nodup_cons.mp this).1 (by simpa [Mu.as] using hz)
        · exact k3 b hb (subZ b hz)
      · rw [show (y == x) = false from beq_eq_false_iff_ne.mpr q] at e
        obtain ⟨v, as, h1, h2, h3⟩ := W.loc y d e
        exact ⟨v, as, h1, h2, fun b hb hz => h3 b hb (subZ b hz)⟩
    · have hm' : (b, es) ∈ μ₁ ++ (a, ds) :: μ₂ := by
        rcases List.mem_append.mp hm with hm | hm
        · exact List.mem_append_left _ hm
        · exact List.mem_append_right _ (.tail _ hm)
      obtain ⟨vs, as, nn, k1, k2, k3, k4⟩ := W.mu b es hm'
      exact ⟨vs, as, nn, k1, k2, fun b hb hz => k3 b hb (subZ b hz), k4⟩
    · have nd : (μ₁.map Prod.fst ++ a :: μ₂.map Prod.fst).Nodup := by simpa [Mu.as] using W.nod
      have := (List.nodup_cons.mp (List.perm_middle.nodup_iff.mp nd)).2
      simpa [Mu.as] using this
  refine h.run s Q E S' (fun ρ' μ' s' hN S2 K2 => kn ρ' μ' s' hN S2 ?_) kr
  exact (Kept.trans (μ' := μ₁ ++ μ₂) ⟨fun a o e _ _ => e, fun a o e => ⟨o, e⟩, ⟨s.heap, s.toks, rfl⟩, fun b hb => .inl (subZ b hb)⟩ K2)⟩

/-! ### MF -/

/-! ## append -/
theorem rdvs_append {F : List Addr} {h : Heap} {v : Value} {d : PyData} {bs : List Addr} (r : RdV F h v d bs) : ∀ {vs ds as}, RdVs F h vs ds as → ∃ cs, RdVs F h (vs ++ [v]) (ds ++ [d]) cs ∧ ∀ c ∈ cs, c ∈ as ∨ c ∈ bs
  | _, _, _, .nil => ⟨bs ++ [], .cons r .nil, fun c hc => .inr (by simpa using hc)⟩
  | _, _, _, .cons (as := as1) h1 h2 => by
    obtain ⟨cs, h3, h4⟩ := rdvs_append r h2
    refine ⟨as1 ++ cs, .cons h1 h3, fun c hc => ?_⟩
    rcases List.mem_append.mp hc with hc | hc
    · exact .inl (List.mem_append_left _ hc)
    · rcases h4 c hc with q | q
      · exact .inl (List.mem_append_right _ q)
      · exact .inr q

theorem Ex1.append {Γ : Fc} {ρ μ₁ μ₂ a ds e d xp apos cpos epos N R} {x : String} (hx : ρ.lookup x = some (.val (.ref a))) (h : Ev Γ ρ (μ₁ ++ (a, ds) :: μ₂) e (.py d)) (k : N ρ (μ₁ ++ (a, ds ++ [d]) :: μ₂)) (hlen : ds.length ≤ 16777216)
    (hi : interactive Γ.env = false) (hs : swapsWith (.Call (.Attribute (.Name (Str.ofString x) xp) (Str.ofString "append") apos) [e] [] cpos) none epos.line Γ.env = pure false := by rfl)
    (hbase : attributeBase (.Name (Str.ofString x) xp) (Str.ofString "append") Γ.env (eval (.Name (Str.ofString x) xp) Γ.env) = eval (.Name (Str.ofString x) xp) Γ.env := by rfl)
    (hst : starEach [e] Γ.env = [(false, eval e Γ.env)] := by rfl) (hline : (apos.endLine == cpos.line) = true := by rfl)
    (hd : (Str.ofString x == ("__debug__" : Str)) = false := by decide) (hn : (Str.ofString x == ("__classdict__" : Str)) = false := by decide) :
    Ex1 Γ ρ (μ₁ ++ (a, ds) :: μ₂) (.Expr (.Call (.Attribute (.Name (Str.ofString x) xp) (Str.ofString "append") apos) [e] [] cpos) epos) N R := ⟨fun s Q E S kn kr => by
  refine wpAny_Expr ?_ hi hs
  refine Call_method1 hbase hst hline ?_
  refine (Ev.name (d := .val (.ref a)) hx hd hn).run s _ E S fun v as0 s0 g0 r0 _ => ?_
  obtain ⟨rfl, _⟩ := r0
  have S0 := S.grow g0
  obtain ⟨vs, as, nn, ho, hr, has, hb⟩ : ∃ vs as n, s0.heap.get? a = some (listOf vs.toArray n) ∧ RdVs Γ.F s0.heap vs ds as ∧ (∀ b ∈ as, b ∉ Γ.Z (μ₁ ++ (a, ds) :: μ₂)) ∧ Γ.h₀.get? a = none := by
    obtain ⟨m, cm, W⟩ := S0
    exact W.mu a ds (List.mem_append_right _ (.head _))
  refine ⟨"list", "list.append", PySem.F.plainAttrs_list, PySem.F.slot_list_append, PySem.F.type_list_append, ⟨_, ho, rfl⟩, fun b hb => by cases hb; exact ⟨_, ho, rfl⟩, ?_⟩
  refine callWith_builtin rfl ?_
  refine evalArgs_plain ?_
  refine spliced_cons (h.run s0 _ E S0 fun v as2 s1 g1 r n => spliced_nil ?_)
  have S1 := S0.grow g1
  have ho1 := g1.1 _ _ ho
  have hr1 := RdVs.keeps g1.1 hr
  refine append_at ho1 (fun h' hs' ho' => ?_) (by rw [sizeLine_eq]; simpa [readsAll_len hr] using hlen)
  obtain ⟨cs, hcs, hcz⟩ := rdvs_append (show RdV Γ.F s1.heap v d as2 from r) hr1
  have hZ : ∀ (ds' : List PyData), Γ.Z (μ₁ ++ (a, ds') :: μ₂) = Γ.Z (μ₁ ++ (a, ds) :: μ₂) := fun ds' => by simp [Fc.Z, Mu.as]
  have hA : ∀ (ds' : List PyData), Mu.as (μ₁ ++ (a, ds') :: μ₂) = Mu.as (μ₁ ++ (a, ds) :: μ₂) := fun ds' => by simp [Mu.as]
  have aZ : a ∈ Γ.Z (μ₁ ++ (a, ds) :: μ₂) := .tail _ (by show a ∈ (μ₁ ++ (a, ds) :: μ₂).map Prod.fst; rw [List.map_append]; exact List.mem_append_right _ (.head _))
  have tz : ∀ b o ws n, b = a → b ∉ Γ.F → s1.heap.get? b = some o → o.cls = .type "tuple" → o.data = .seq ws n → False := fun b o ws n q _ hob hc _ => by
    rw [q, ho1] at hob; cases hob
    exact absurd (show Value.type "list" = Value.type "tuple" from hc) (by decide)
  have tk : ∀ b o, s1.heap.get? b = some o → ¬ b = a → h'.get? b = some o := fun b o e q => (hs'.2 b q).trans e
  have S2 : St Γ ρ (μ₁ ++ (a, ds ++ [d]) :: μ₂) { s1 with heap := h' } := by
    obtain ⟨m, cm, W⟩ := S1
    have aL : a ≠ Γ.env.locals := fun q => by
      obtain ⟨o', es, ep, ho', hd', _⟩ := W.fr.ns
      rw [← q, ho1] at ho'; cases ho'
      cases hd'
    refine ⟨m, cm, W.ok, ⟨W.fr.ns.sameBut hs' (Ne.symm aL), fun b o e => tk b o (W.fr.keep b o e) fun q => (by rw [q, hb] at e; cases e), W.fr.above⟩, fun y c e => (W.cell y c e).sameBut hs' fun q => ?_, fun y d' e => ?_, fun b es hm => ?_, ?_, fun b m => ?_⟩
    · obtain ⟨o, hoc, hdc⟩ := W.cell y c e
      rw [q, ho1] at hoc; cases hoc
      cases hdc
    · obtain ⟨v', as', h1, h2, h3⟩ := W.loc y d' e
      exact ⟨v', as', h1, h2.off _ tz tk fun b hb q => h3 b hb (q ▸ aZ), fun b hb => by rw [hZ]; exact h3 b hb⟩
    · by_cases q : b = a
      · subst q
        have hes : es = ds ++ [d] := by
          have nd : (μ₁.map Prod.fst ++ b :: μ₂.map Prod.fst).Nodup := by simpa [Mu.as] using W.nod
          have nd' := (List.nodup_cons.mp (List.perm_middle.nodup_iff.mp nd)).1
          rcases List.mem_append.mp hm with hm | hm
          · exact absurd (List.mem_append_left _ (List.mem_map_of_mem (f := Prod.fst) hm)) nd'
          · rcases List.mem_cons.mp hm with q | hm
            · cases q; rfl
            · exact absurd (List.mem_append_right _ (List.mem_map_of_mem (f := Prod.fst) hm)) nd'
        subst hes
        refine ⟨vs ++ [v], cs, nn + 1, by rw [ho']; simp, rdvs_off _ tz tk hcs fun c hc q => ?_, fun c hc => ?_, hb⟩
        · rcases hcz c hc with m | m
          · exact has c m (q ▸ aZ)
          · exact n c m (q ▸ aZ)
        · rw [hZ]
          rcases hcz c hc with m | m
          · exact has c m
          · exact n c m
      · have hm' : (b, es) ∈ μ₁ ++ (a, ds) :: μ₂ := by
          rcases List.mem_append.mp hm with hm | hm
          · exact List.mem_append_left _ hm
          · rcases List.mem_cons.mp hm with q' | hm
            · cases q'; exact absurd rfl q
            · exact List.mem_append_right _ (.tail _ hm)
        obtain ⟨ws, as', n', k1, k2, k3, k4⟩ := W.mu b es hm'
        exact ⟨ws, as', n', tk b _ k1 q, rdvs_off _ tz tk k2 fun c hc q => k3 c hc (q ▸ aZ), fun c hc => by rw [hZ]; exact k3 c hc, k4⟩
    · rw [hA]; exact W.nod
    · obtain ⟨o, e⟩ := W.forb b m
      by_cases q : b = a
      · subst q; exact ⟨_, ho'⟩
      · exact ⟨o, tk b o e q⟩
  refine kn _ _ _ k S2 (Kept.trans (Kept.of_grow (g0.trans g1)) ⟨fun b o e nz _ => tk b o e fun q => nz (q ▸ aZ), fun b o e => ?_, ⟨h', s1.toks, rfl⟩, fun b hb => .inl (by rw [hZ] at hb; exact hb)⟩)
  by_cases q : b = a
  · subst q; exact ⟨_, ho'⟩
  · exact ⟨o, tk b o e q⟩⟩

/-! ## while -/
theorem Ex1.while {Γ : Fc} {ρ μ t body pos N R} (I : Nat → Loc → Mu → Prop)
    (turn : ∀ n ρ μ, I n ρ μ → ∃ b, EvT Γ ρ μ t b ∧ (b = true → Ex Γ ρ μ body (fun ρ' μ' => ∃ m, m < n ∧ I m ρ' μ') R) ∧ (b = false → N ρ μ))
    (n : Nat) (h : I n ρ μ) : Ex1 Γ ρ μ (.While t body [] pos) N R := ⟨fun s Q E S kn kr => by
  refine wpAny_While ?_
  refine codeAny_whileLoop (fun n s' => ∃ ρ' μ', I n ρ' μ' ∧ St Γ ρ' μ' s' ∧ Kept Γ μ s μ' s') (fun n s' hI => ?_) n ⟨ρ, μ, h, S, .refl⟩
  obtain ⟨ρ', μ', hI, S', K⟩ := hI
  obtain ⟨b, hb, ht, hf⟩ := turn n ρ' μ' hI
  refine hb.run s' _ _ S' fun s1 g => ?_
  have K1 := K.trans (Kept.of_grow g)
  cases b with
  | true =>
    refine (ht rfl).run s1 _ _ (S'.grow g) (fun ρ2 μ2 s2 hN S2 K2 => ?_) fun v d as s2 hR r n ok => ?_
    · obtain ⟨m, hm, hI⟩ := hN
      exact ⟨m, hm, ρ2, μ2, hI, S2, K1.trans K2⟩
    · exact kr v d as s2 hR r n (RetOk.of_kept K1 ok)
  | false => exact wpAny_execs_nil (kn ρ' μ' s1 (hf rfl) (S'.grow g) K1)⟩

/-! ### MG -/

/-! ## for over a list -/
noncomputable def Loop (Γ : Fc) (target : Expr) (body : List Stmt) (N : Loc → Mu → Prop) (R : D → Prop) : List PyData → Loc → Mu → Prop
  | [], ρ, μ => N ρ μ
  | d :: ds, ρ, μ => ∃ ρ', Asg Γ target (.py d) ρ ρ' ∧ Ex Γ ρ' μ body (Loop Γ target body N R ds) R

theorem St.poke {Γ : Fc} {ρ μ s} {b : Addr} {h' : Heap} (S : St Γ ρ μ s) (ext : ∀ a o, a ≠ b → s.heap.get? a = some o → h'.get? a = some o) (hb : ∃ o fs, s.heap.get? b = some o ∧ o.data = .fields fs) (h0 : Γ.h₀.get? b = none) (hF : b ∉ Γ.F) : St Γ ρ μ { s with heap := h' } := by
  obtain ⟨m, cm, W⟩ := S
  obtain ⟨ob, fs, hob, hdb⟩ := hb
  have bL : Γ.env.locals ≠ b := fun q => by
    obtain ⟨o', es, ep, ho', hd', _⟩ := W.fr.ns
    rw [q, hob] at ho'; cases ho'
    rw [hdb] at hd'; cases hd'
  have tz : ∀ a o vs n, a = b → a ∉ Γ.F → s.heap.get? a = some o → o.cls = .type "tuple" → o.data = .seq vs n → False := fun a o vs n q _ ho _ hd => by
    rw [q, hob] at ho; cases ho
    rw [hdb] at hd; cases hd
  have tk : ∀ a o, s.heap.get? a = some o → ¬ a = b → h'.get? a = some o := fun a o e q => ext a o q e
  have ka : ∀ a, IsLst s.heap a → ¬ a = b := fun a ⟨o, vs, n, ho, _, hd⟩ q => by
    rw [q, hob] at ho; cases ho
    rw [hdb] at hd; cases hd
  refine ⟨m, cm, W.ok, ⟨?_, fun a o e => tk a o (W.fr.keep a o e) fun q => ?_, W.fr.above⟩, fun y c e => ?_, fun y d e => ?_, fun a ds hm => ?_, W.nod, fun a hm => ?_⟩
  · obtain ⟨o, es, ep, ho, r⟩ := W.fr.ns
    exact ⟨o, es, ep, tk _ _ ho bL, r⟩
  · rw [q, h0] at e; cases e
  · obtain ⟨o, ho, hd⟩ := W.cell y c e
    refine ⟨o, tk _ _ ho fun q => ?_, hd⟩
    rw [q, hob] at ho; cases ho
    rw [hdb] at hd; cases hd
  · obtain ⟨v, as, h1, h2, h3⟩ := W.loc y d e
    exact ⟨v, as, h1, h2.off _ tz tk fun a ha => ka a (h2.kind a ha), h3⟩
  · obtain ⟨vs, as, nn, k1, k2, k3, k4⟩ := W.mu a ds hm
    exact ⟨vs, as, nn, tk _ _ k1 (ka a ⟨_, _, _, k1, rfl, rfl⟩), rdvs_off _ tz tk k2 fun c hc => ka c (rdvs_kind k2 c hc), k3, k4⟩
  · obtain ⟨o, e⟩ := W.forb a hm
    exact ⟨o, tk a o e fun q => hF (q ▸ hm)⟩

theorem Kept.poke {Γ : Fc} {μ μ' s₀ s} {b : Addr} {h' : Heap} (K : Kept Γ μ s₀ μ' s) (hn : s₀.heap.get? b = none) (ext : ∀ a o, a ≠ b → s.heap.get? a = some o → h'.get? a = some o) : Kept Γ μ s₀ μ' { s with heap := h' } where
  keep := fun a o e n c => ext a o (fun q => by rw [q, hn] at e; cases e) (K.keep a o e n c)
  ex := fun a o e => let ⟨o', e'⟩ := K.ex a o e; ⟨o', ext a o' (fun q => by rw [q, hn] at e; cases e) e'⟩
  eq := by obtain ⟨h, tk, rfl⟩ := K.eq; exact ⟨h', tk, rfl⟩
  mu := K.mu

theorem rdvs_get {F : List Addr} {h : Heap} : ∀ {vs ds as}, RdVs F h vs ds as → ∀ (i : Nat) (d : PyData), ds[i]? = some d → ∃ v bs, vs[i]? = some v ∧ RdV F h v d bs ∧ ∀ b ∈ bs, b ∈ as
  | _, _, _, .nil, i, d, e => by simp at e
  | _, _, _, .cons (v := v) (as := as1) h1 h2, 0, d, e => by
    simp only [List.getElem?_cons_zero, Option.some.injEq] at e
    subst e
    exact ⟨v, as1, rfl, h1, fun b hb => List.mem_append_left _ hb⟩
  | _, _, _, .cons h1 h2, i + 1, d, e => by
    obtain ⟨v, bs, q1, q2, q3⟩ := rdvs_get h2 i d (by simpa using e)
    exact ⟨v, bs, by simpa using q1, q2, fun b hb => List.mem_append_right _ (q3 b hb)⟩

def Fresh (Γ : Fc) (μ : Mu) (b : Addr) : Prop := b ∉ Γ.Z μ ∧ ∀ x c, Γ.env.cells.lookup x = some c → b ≠ c
theorem Kept.fresh {Γ : Fc} {μ μ' s s'} {b : Addr} {o : Obj} (K : Kept Γ μ s μ' s') (h : Fresh Γ μ b) (hb : s.heap.get? b = some o) : Fresh Γ μ' b ∧ s'.heap.get? b = some o :=
  ⟨⟨fun m => (K.mu b m).elim h.1 fun e => (by rw [hb] at e; cases e), h.2⟩, K.keep b o hb h.1 h.2⟩
theorem Kept.lists {Γ : Fc} {ρ μ μ' s s'} {as : List Addr} (S : St Γ ρ μ s) (K : Kept Γ μ s μ' s') (hk : ∀ a ∈ as, IsLst s.heap a) (n : ∀ a ∈ as, a ∉ Γ.Z μ) : ∀ a ∈ as, a ∉ Γ.Z μ' := fun a ha m =>
  (K.mu a m).elim (n a ha) fun e => by obtain ⟨o, _, _, ho, _⟩ := hk a ha; rw [ho] at e; cases e

theorem St.fresh_new {Γ : Fc} {ρ μ s} {b : Addr} (S : St Γ ρ μ s) (hn : s.heap.get? b = none) : Fresh Γ μ b ∧ Γ.h₀.get? b = none ∧ b ∉ Γ.F := by
  obtain ⟨m, cm, W⟩ := id S
  refine ⟨⟨fun hm => ?_, fun x c e q => ?_⟩, ?_, fun hm => ?_⟩
  · obtain ⟨o, ho⟩ := S.mu_some hm
    rw [hn] at ho; cases ho
  · obtain ⟨o, ho, _⟩ := W.cell x c e
    rw [← q, hn] at ho; cases ho
  · cases q : Γ.h₀.get? b with
    | none => rfl
    | some o => have := W.fr.keep b o q; rw [hn] at this; cases this
  · obtain ⟨o, ho⟩ := W.forb b hm
    rw [hn] at ho; cases ho

def GoOk (Γ : Fc) (target : Expr) (ds : List PyData) : Prop :=
  ∀ (it l : Addr) (i : Nat) (s : Shared) (Q : Unit → Shared → Prop) (E : Value → Shared → Prop) (v : Value) (d : PyData) (as : List Addr), d ∈ ds → RdV Γ.F s.heap v d as → s.heap.IsListIter it l i → Q () s → wpAny Γ.M Γ.A (letOwnedTupleGo target (.ref it) v) Q E s
theorem GoOk.name {Γ : Fc} {x pos ds} : GoOk Γ (.Name x pos) ds := fun it l i s Q E v d as hd r hi q => wpAny_of_eq (a := ()) rfl q
theorem GoOk.tuple {Γ : Fc} {es k pos ds} (h : ∀ d ∈ ds, ∃ l, d = .tuple l) : GoOk Γ (.Tuple es k pos) ds := fun it l i s Q E v d as hd r hi q => by
  obtain ⟨l', rfl⟩ := h d hd
  cases r with
  | tuple ho hc hdt hF hr => exact wpAny_letOwnedTupleGo_listiter hi q

theorem Ex1.for {Γ : Fc} {ρ μ target iter body pos N R} {ds : List PyData} (h : Ev Γ ρ μ iter (.lst ds)) (hl : Loop Γ target body N R ds ρ μ) (hgo : GoOk Γ target ds)
    (hfs : ∀ x, foldedSetIterable iter Γ.env x = pure x := by intro _; rfl) : Ex1 Γ ρ μ (.For target iter body [] pos) N R := ⟨fun s Q E S kn kr => by
  refine wpAny_For (h.run s _ E S fun v as s1 g1 r1 n1 => ?_) hfs
  have S1 := S.grow g1
  have hh := S1.amb.hnd
  cases id r1 with
  | @list l o vs nn _ as ho hc hd hr =>
    have hL : s1.heap.IsList l vs := ⟨o, ho, hc, nn, hd⟩
    refine wpAny_pyIter_list hL ?_
    have g2 := Grow.push s1 { cls := .type "list_iterator", data := .fields #[.ref l, .int 0 0] }
    have hn : s1.heap.get? s1.heap.objs.size = none := Heap.get?_none_of_le (Nat.le_refl _)
    obtain ⟨hfr, hn0, hnF⟩ := S1.fresh_new hn
    generalize hit : s1.heap.objs.size = it at *
    have hit0 : (s1.heap.push { cls := .type "list_iterator", data := .fields #[.ref l, .int 0 0] }).get? it = some { cls := .type "list_iterator", data := .fields #[.ref l, .int 0 0] } := by
      rw [← hit]; exact Heap.get?_push_size _ rfl
    refine codeAny_forLoop_any (fun k s' => ∃ i ρ' μ', k = ds.length + 1 - i ∧ i ≤ ds.length ∧ Loop Γ target body N R (ds.drop i) ρ' μ' ∧ St Γ ρ' μ' s' ∧ Kept Γ μ s1 μ' s' ∧ s'.heap.IsListIter it l i ∧ Fresh Γ μ' it ∧
      RdV Γ.F s'.heap (.ref l) (.list ds) (l :: as) ∧ ∀ a ∈ l :: as, a ∉ Γ.Z μ') (fun k s' hI => ?_) (ds.length + 1)
      ⟨0, ρ, μ, by omega, by omega, hl, S1.grow g2, Kept.of_grow g2, ⟨_, hit0, rfl, rfl⟩, hfr, RdV.keeps g2.1 (show RdV Γ.F s1.heap (.ref l) (.list ds) (l :: as) from r1), n1⟩
    obtain ⟨i, ρ', μ', rfl, hi, hLp, S', K', hIt, hF', hR, hN⟩ := hI
    have hlist := hR
    cases hlist with
    | @list _ o' vs' nn' _ _ ho' hc' hd' hr' =>
      have hL' : s'.heap.IsList l vs' := ⟨o', ho', hc', nn', hd'⟩
      have hItF : ∃ o fs, s'.heap.get? it = some o ∧ o.data = .fields fs := by obtain ⟨o, e, _, d⟩ := hIt; exact ⟨o, _, e, d⟩
      have offR : ∀ h', (∀ a o, a ≠ it → s'.heap.get? a = some o → h'.get? a = some o) → RdV Γ.F h' (.ref l) (.list ds) (l :: as) := fun h' ext => by
        obtain ⟨oi, fi, hoi, hdi⟩ := hItF
        refine rdv_off (· = it) (fun a o vs n q _ ho _ hd => ?_) (fun a o e q => ext a o q e) hR fun a ha q => ?_
        · rw [q, hoi] at ho; cases ho
          rw [hdi] at hd; cases hd
        · obtain ⟨o, _, _, ho, _, hd⟩ := rdv_kind hR a ha
          rw [q, hoi] at ho; cases ho
          rw [hdi] at hd; cases hd
      cases hx : ds[i]? with
      | none =>
        have hlen : ds.length ≤ i := by simpa using hx
        refine wpAny_pyNext_list_end hh hIt hL' (by have := readsAll_len hr'; simp at this ⊢; omega) fun h' he => ?_
        have S2 := S'.poke (h' := h') (fun a o q e => he a o q e) hItF hn0 hnF
        have hLp' : N ρ' μ' := by
          rw [List.drop_eq_nil_of_le hlen] at hLp; exact hLp
        exact wpAny_execs_nil (kn ρ' μ' _ hLp' S2 ((Kept.of_grow g1).trans (K'.poke hn fun a o q e => he a o q e)))
      | some d =>
        have hlt : i < ds.length := by
          rcases Nat.lt_or_ge i ds.length with q | q
          · exact q
          · rw [List.getElem?_eq_none q] at hx; cases hx
        obtain ⟨v, bs, hv, hrv, hbs⟩ := rdvs_get hr' i d hx
        refine wpAny_pyNext_list_item hIt hL' (x := v) (by simpa using hv) fun h' hIt' hs' => ?_
        have ext : ∀ a o, a ≠ it → s'.heap.get? a = some o → h'.get? a = some o := fun a o q e => (hs'.2 a q).trans e
        have S2 := S'.poke (h' := h') ext hItF hn0 hnF
        have K2 := K'.poke (h' := h') hn ext
        have R2 := offR h' ext
        have rv2 : RdV Γ.F h' v d bs := by
          cases R2 with
          | list ho2 hc2 hd2 hr2 =>
            have q := ext l o' (fun q => ?_) ho'
            · rw [q] at ho2; cases ho2
              rw [hd'] at hd2; cases hd2
              obtain ⟨v2, bs2, e1, e2, e3⟩ := rdvs_get hr2 i d hx
              obtain ⟨oi, fi, hoi, hdi⟩ := hItF
              refine rdv_off (· = it) (fun a o vs n q _ ho _ hd => ?_) (fun a o e q => ext a o q e) hrv fun a ha q => ?_
              · rw [q, hoi] at ho; cases ho
                rw [hdi] at hd; cases hd
              · obtain ⟨o, _, _, ho, _, hd⟩ := rdv_kind hrv a ha
                rw [q, hoi] at ho; cases ho
                rw [hdi] at hd; cases hd
            · obtain ⟨oi, fi, hoi, hdi⟩ := hItF
              rw [q, hoi] at ho'; cases ho'
              rw [hdi] at hd'; cases hd'
        have hdm : d ∈ ds := List.mem_of_getElem? hx
        refine hgo it l (i + 1) _ _ _ v d bs hdm rv2 hIt' ?_
        have hdrop : ds.drop i = d :: ds.drop (i + 1) := by
          rw [List.drop_eq_getElem_cons hlt]
          rw [List.getElem?_eq_getElem hlt] at hx
          rw [Option.some.inj hx]
        rw [hdrop] at hLp
        obtain ⟨ρ2, hasg, hbody⟩ := hLp
        refine hasg.run μ' _ v bs _ _ S2 rv2 (fun b hb => hN b (.tail _ (hbs b hb))) fun s3 S3 K3 => ?_
        obtain ⟨oi, hoi, hci, hdi⟩ := id hIt'
        obtain ⟨hF3, hoi3⟩ := K3.fresh hF' hoi
        have R3 : RdV Γ.F s3.heap (.ref l) (.list ds) (l :: as) := Rd.sameKept (d := .py _) S2 K3 R2 hN
        have N3 := Kept.lists S2 K3 (fun a ha => rdv_kind R2 a ha) hN
        refine hbody.run s3 _ _ S3 (fun ρ4 μ4 s4 hN4 S4 K4 => ?_) fun v' d' as' s4 hR' r' n' ok => ?_
        · obtain ⟨hF4, hoi4⟩ := K4.fresh hF3 hoi3
          exact ⟨ds.length + 1 - (i + 1), by omega, i + 1, ρ4, μ4, rfl, hlt, hN4, S4, (K2.trans K3).trans K4, ⟨oi, hoi4, hci, hdi⟩, hF4, Rd.sameKept (d := .py _) S3 K4 R3 N3, Kept.lists S3 K4 (fun a ha => rdv_kind R3 a ha) N3⟩
        · exact kr v' d' as' s4 hR' r' n' (RetOk.of_kept ((Kept.of_grow g1).trans ((K2.trans K3))) ok)⟩

/-! ### MH -/

theorem lookup_reverse {β : Type} : ∀ (l : List (Str × β)), (l.map Prod.fst).Nodup → ∀ k, l.reverse.lookup k = l.lookup k
  | [], _, _ => rfl
  | (x, v) :: r, h, k => by
    have h' := List.nodup_cons.mp (show (x :: r.map Prod.fst).Nodup from h)
    rw [List.reverse_cons, List.lookup_append, lookup_reverse r h'.2 k, List.lookup_cons]
    by_cases q : k = x
    · subst q
      have : r.lookup k = none := by
        cases e : r.lookup k with
        | none => rfl
        | some v' => exact absurd (List.mem_map.mpr ⟨(k, v'), mem_of_lookup_some e, rfl⟩) h'.1
      rw [this]; simp
    · have q' : (k == x) = false := beq_eq_false_iff_ne.mpr q
      simp [List.lookup_cons, q']

theorem lookup_zip {F : List Addr} {h : Heap} {x : String} {d : D} : ∀ {names : List String} {vs : List Value} {ds : List D}, RdArgs F h vs ds → (names.zip ds).lookup x = some d →
    ∃ v as, ((names.map Str.ofString).zip vs).lookup (Str.ofString x) = some v ∧ Rd F h v d as ∧ x ∈ names
  | [], _, _, _, e => by simp at e
  | y :: names, _, _, .nil, e => by simp at e
  | y :: names, _, _, .cons (v := v) (as := as) r rs, e => by
    rw [List.zip_cons_cons, List.lookup_cons] at e
    by_cases q : x = y
    · subst q
      rw [beq_self_eq_true] at e
      cases e
      exact ⟨v, as, by simp, r, .head _⟩
    · rw [show (x == y) = false from beq_eq_false_iff_ne.mpr q] at e
      obtain ⟨v', as', h1, h2, h3⟩ := lookup_zip rs e
      refine ⟨v', as', ?_, h2, .tail _ h3⟩
      rw [List.map_cons, List.zip_cons_cons, List.lookup_cons, show (Str.ofString x == Str.ofString y) = false from beq_eq_false_iff_ne.mpr fun e => q (ofString_inj e)]
      exact h1

theorem RdArgs.append {F : List Addr} {h : Heap} {vs ds vs' ds'} (r : RdArgs F h vs ds) (r' : RdArgs F h vs' ds') : RdArgs F h (vs ++ vs') (ds ++ ds') := by
  induction r with
  | nil => exact r'
  | cons r _ ih => exact .cons r ih
theorem RdArgs.len {F : List Addr} {h : Heap} {vs ds} (r : RdArgs F h vs ds) : vs.length = ds.length := by
  induction r with
  | nil => rfl
  | cons _ _ ih => simp [ih]

theorem CallJ.fn {n : Nat} {f : Addr} {ds : List D} {d : D} {fo : Obj} {name qual : Str} {params : Arguments} {body : List Stmt} {scope : Scope} {dV kV doc pm cdv ct : Value} {an : Option Addr} {names : List String} {dvs : List Value} {dds : List D}
    (hK : ∀ P, (hd.heap_39 P).lookup f = some fo) (hfo : fo.data = .func (fnX name qual params body scope [] dV kV doc pm an cdv ct)) (hcd : ∀ P, codeIn (hd.heap_39 P) cdv qual = true)
    (hbind : ∀ (w : World) (s : Shared) (vs : List Value), vs.length = ds.length → (hd.heap_39 w.params).In s.heap → BindsTo s (fnX name qual params body scope [] dV kV doc pm an cdv ct) ⟨vs, []⟩ ((names.map Str.ofString).zip (vs ++ dvs)))
    (hdv : ∀ F h, RdArgs F h dvs dds) (hloc : ∀ x ∈ names, scope.names.lookup (Str.ofString x) = some .local) (hnd : names.Nodup)
    (hcell : ∀ x ∈ scope.names, x.2 ≠ .cell)
    (h : ∀ w mg mb A h₀ L F, Ex { w, mg, mb, A, h₀, env := envX qual scope L f cdv [], n, F } (names.zip (ds ++ dds)) [] body (fun _ _ => False) (fun d' => d' = d))
    (hco : scope.isCoroutine = false := by rfl) (hgen : scope.isGenerator = false := by rfl) (hk : scope.kind = .function := by rfl) : CallJ (n + 1) (.ref f) ds d := by
  refine ⟨?_⟩
  intro w mg mb A s vs F Q E G hF hd hu hh r k
  refine wpAny_call ?_
  have hvl := r.len
  have keysNodup : (names.map Str.ofString).Nodup := by
    clear h hloc hbind
    induction names with
    | nil => exact .nil
    | cons y names ih =>
      have q := List.nodup_cons.mp hnd
      refine List.nodup_cons.mpr ⟨fun m => ?_, ih q.2⟩
      obtain ⟨z, hz, e⟩ := List.mem_map.mp m
      exact q.1 (ofString_inj e ▸ hz)
  have sub : ∀ {l : List Str} {m : List Value}, l.Nodup → ((l.zip m).map Prod.fst).Nodup := by
    intro l
    induction l with
    | nil => intro m _; simp
    | cons y l ih =>
      intro m hn
      cases m with
      | nil => simp
      | cons v m =>
        have q := List.nodup_cons.mp hn
        refine List.nodup_cons.mpr ⟨fun hm => ?_, ih q.2⟩
        obtain ⟨p, hp, e⟩ := List.mem_map.mp hm
        exact q.1 (by have := (List.of_mem_zip hp).1; rw [e] at this; exact this)
  refine codeAny_call_def (fd := fnX name qual params body scope [] dV kV doc pm an cdv ct) (body := body) (by omega) (G.kin _ _ (hK _)) hfo G.nolimit (codeRec_of G.kin (hcd _)) rfl (hbind w s vs hvl G.kin) hcell (fun x hx => ?_) (fun h₁ hns hk₁ => ?_) hco hgen hk
  · obtain ⟨⟨y, hy⟩, _⟩ : (∃ y, y ∈ names ∧ Str.ofString y = x.1) ∧ True := by
      have := (List.of_mem_zip (show (x.1, x.2) ∈ _ from hx)).1
      obtain ⟨y, h1, h2⟩ := List.mem_map.mp this
      exact ⟨⟨y, h1, h2⟩, trivial⟩
    rw [← hy.2]; exact hloc y hy.1
  · have stays : s.heap.StaysIn h₁ := hk₁
    let env := envX qual scope s.heap.objs.size f cdv []
    let Γ : Fc := { w, mg, mb, A := A.deeper env, h₀ := s.heap, env, n, F }
    have S : St Γ (names.zip (ds ++ dds)) [] { s with heap := h₁, toks := s.toks + ((names.map Str.ofString).zip (vs ++ dvs)).length } := by
      refine ⟨_, fun _ => none, ⟨hk, rfl, rfl, G, ?_, ?_, hh, (fun x y c e => by cases e)⟩, ⟨hns, hk₁, Nat.le_refl _⟩, (fun x c e => by cases e), fun x d' e => ?_, (fun a ds' m => nomatch m), .nil, fun a m => ?_⟩
      · show A.depth + 1 + n < recursionLimit; omega
      · show A.units + 3 + 4 * n + 80 < cLine; omega
      · obtain ⟨v, as, h1, h2, h3⟩ := lookup_zip (r.append (hdv F s.heap)) e
        refine ⟨v, as, ?_, h2.keeps stays, fun a ha hz => ?_⟩
        · unfold Fc.var
          have : Γ.env.kindOf (Str.ofString x) = some .local := hloc x h3
          rw [this]
          show ((names.map Str.ofString).zip (vs ++ dvs)).reverse.lookup (Str.ofString x) = some v
          rw [lookup_reverse _ (sub keysNodup)]
          exact h1
        · obtain ⟨o, _, _, ho, _⟩ := h2.kind a ha
          rcases List.mem_cons.mp hz with q | q
          · have : a = s.heap.objs.size := q
            exact Nat.lt_irrefl _ (this ▸ Heap.lt_size ho)
          · cases q
      · obtain ⟨o, e⟩ := hF a m
        exact ⟨o, stays _ _ e⟩
    refine (h w mg mb (A.deeper env) s.heap s.heap.objs.size F).run _ _ _ S (fun ρ' μ' s' x _ _ => x.elim) fun v d' as s' hR rd n ok => ?_
    subst hR
    obtain ⟨st, h2, tk, e⟩ := ok
    exact k v as s' ⟨st, h2, tk, e⟩ rd n

/-! ### MI -/

theorem seqIndex_pos {i : Int} {n : Nat} (h0 : 0 ≤ i) (h : i.toNat < n) : seqIndex? i n = some i.toNat := by
  unfold seqIndex?
  simp only []
  rw [if_neg (by omega : ¬ i < 0), show (decide (0 ≤ i) && decide (i < (n : Int))) = true from by simp; omega]
  rfl
/-! ## items -/
structure SubJ (d1 d2 d : D) : Prop where
  run : ∀ (w : World) (A : Around) (s : Shared) (Q : Value → Shared → Prop) (E : Value → Shared → Prop) (v1 v2 : Value) (as1 as2 F : List Addr), Amb w A F s → Rd F s.heap v1 d1 as1 → Rd F s.heap v2 d2 as2 →
    (∀ v as s', Grow s s' → Rd F s'.heap v d as → (∀ a ∈ as, a ∈ as1) → Q v s') → ∃ T id, s.TypeIs v1 T ∧ typeLookup (.type T) "__getitem__" = pure (some (.builtin id)) ∧ wpAny (model PG w) A (getItem v1 v2) Q E s
theorem SubJ.eq {d1 d2 d d'} (h : SubJ d1 d2 d) (q : d = d') : SubJ d1 d2 d' := q ▸ h

theorem Ev.sub {Γ : Fc} {ρ μ e1 e2 d1 d2 d pos} (h1 : Ev Γ ρ μ e1 d1) (h2 : Ev Γ ρ μ e2 d2) (h : SubJ d1 d2 d) (hs : ∀ o i, subscripted e2 false o i = operate [o, i] (getItem o i) := by intro _ _; rfl) : Ev Γ ρ μ (.Subscript e1 e2 pos) d := ⟨fun s Q E S k => by
  refine Subscript_ (h1.run s _ E S fun v1 as1 s1 g1 r1 n1 => h2.run s1 _ E (S.grow g1) fun v2 as2 s2 g2 r2 n2 => ?_)
  have S2 := (S.grow g1).grow g2
  obtain ⟨T, id, hT, hl, hw⟩ := h.run Γ.w Γ.A s2 Q E v1 v2 as1 as2 Γ.F S2.amb (r1.keeps g2.1) r2 fun v as s' g r n => k v as s' (g1.trans (g2.trans g)) r fun a ha => n1 a (n a ha)
  exact tail_any hT hl hw (hs _ _)⟩

theorem SubJ.str {x : Str} {i : Int} {c : Nat} (h0 : 0 ≤ i) (hc : x.cps.toList[i.toNat]? = some c) (hfit : i < 2 ^ 63 := by omega) : SubJ (.str x) (.int i) (.str ⟨#[c]⟩) := ⟨fun w A s Q E v1 v2 as1 as2 F am r1 r2 k => by
  cases r1 with
  | str _ t => cases r2 with
    | int _ u =>
      have hlt : i.toNat < x.cps.toList.length := by
        rcases Nat.lt_or_ge i.toNat x.cps.toList.length with q | q
        · exact q
        · rw [List.getElem?_eq_none q] at hc; cases hc
      have hlen : x.length = x.cps.toList.length := by simp [Str.length]
      have e : seqIndex? i x.length = some i.toNat := seqIndex_pos h0 (by omega)
      refine ⟨"str", _, typeIs_str s x t, PySem.F.slot_str_getitem.lookup, PyProof.Rows.getItem_str (c := c) ?_ ?_ (k _ [] _ (Grow.tok s _) (RdV.str _ _) (fun _ x => nomatch x))⟩
      · rw [decide_eq_false (by omega), decide_eq_false (by omega)]; rfl
      · rw [e]; simpa using hc⟩

theorem SubJ.tup {l : List PyData} {i : Int} {d : PyData} (h0 : 0 ≤ i) (hd : l[i.toNat]? = some d) (hfit : i < 2 ^ 63 := by decide) : SubJ (.tup l) (.int i) (.py d) := ⟨fun w A s Q E v1 v2 as1 as2 F am r1 r2 k => by
  cases r1 with
  | @tuple a o vs n _ as ho hc hdt hF hr => cases r2 with
    | int _ u =>
      obtain ⟨v, bs, hv, rv, hb⟩ := rdvs_get hr _ _ hd
      have ht : IsTup s.heap a vs := ⟨o, ho, hc, n, hdt⟩
      have hlt : i.toNat < vs.toList.length := by
        rcases Nat.lt_or_ge i.toNat vs.toList.length with q | q
        · exact q
        · rw [List.getElem?_eq_none q] at hv; cases hv
      have e : seqIndex? i vs.size = some i.toNat := seqIndex_pos h0 (by simpa using hlt)
      refine ⟨"tuple", _, ht.typeIs, PySem.F.slot_tuple_getitem.lookup, getItem_tuple ht (by omega) hfit e (by simpa using hv) (k _ bs s (Grow.refl s) rv hb)⟩⟩

theorem SubJ.lst {l : List PyData} {i : Int} {d : PyData} (h0 : 0 ≤ i) (hd : l[i.toNat]? = some d) (hfit : i < 2 ^ 63 := by decide) : SubJ (.lst l) (.int i) (.py d) := ⟨fun w A s Q E v1 v2 as1 as2 F am r1 r2 k => by
  cases r1 with
  | @list a o vs n _ as ho hc hdt hr => cases r2 with
    | int _ u =>
      obtain ⟨v, bs, hv, rv, hb⟩ := rdvs_get hr _ _ hd
      have ht : s.heap.IsList a vs := ⟨o, ho, hc, n, hdt⟩
      refine ⟨"list", _, ht.typeIs, PySem.F.slot_list_getitem.lookup, wpAny_getItem_list ht h0 hfit (by simpa using hv) (k _ bs s (Grow.refl s) rv fun b m => .tail _ (hb b m))⟩⟩
theorem SubJ.lastOf {l : List PyData} {d : PyData} (hd : l.getLast? = some d) (hl : l.length < 2 ^ 62) : SubJ (.lst l) (.int (-1)) (.py d) := ⟨fun w A s Q E v1 v2 as1 as2 F am r1 r2 k => by
  cases r1 with
  | @list a o vs n _ as ho hc hdt hr => cases r2 with
    | int _ u =>
      have hne : l ≠ [] := fun q => by rw [q] at hd; cases hd
      have hp : 0 < l.length := List.length_pos_iff.mpr hne
      have hd' : l[l.length - 1]? = some d := by rw [← List.getLast?_eq_getElem?]; exact hd
      obtain ⟨v, bs, hv, rv, hb⟩ := rdvs_get hr _ _ hd'
      have ht : s.heap.IsList a vs := ⟨o, ho, hc, n, hdt⟩
      have hsz : vs.size = l.length := by simpa using readsAll_len hr
      refine ⟨"list", _, ht.typeIs, PySem.F.slot_list_getitem.lookup, ?_⟩
      exact wpAny_getItem_list_neg ht (x := v) (by decide) (by omega) (by decide) (by rw [show ((-1 : Int) + (vs.size : Int)).toNat = l.length - 1 from by omega]; simpa using hv) (k _ bs s (Grow.refl s) rv fun b m => .tail _ (hb b m))⟩

/-- the last item of a list of the frame's own -/
theorem Ev.lastOwn {Γ : Fc} {ρ μ a ds d pos pos1 pos2 pos3 k} {x : String} (h : Ev Γ ρ μ (.Name (Str.ofString x) pos1) (.val (.ref a))) (hm : (a, ds) ∈ μ) (hd : ds.getLast? = some d) (hl : ds.length < 2 ^ 62) :
    Ev Γ ρ μ (.Subscript (.Name (Str.ofString x) pos1) (.UnaryOp .USub (.Constant (.int 1) k pos2) pos3) pos) (.py d) := ⟨fun s Q E S kk => by
  refine Subscript_ (h.run s _ E S fun v1 as1 s1 g1 r1 n1 => (Ev.neg (Ev.int (i := 1))).run s1 _ E (S.grow g1) fun v2 as2 s2 g2 r2 n2 => ?_)
  have S2 := (S.grow g1).grow g2
  obtain ⟨rfl, _⟩ := r1
  obtain ⟨vs, as, n, ho, hr, hn, _⟩ : ∃ vs as n, s2.heap.get? a = some (listOf vs.toArray n) ∧ RdVs Γ.F s2.heap vs ds as ∧ (∀ b ∈ as, b ∉ Γ.Z μ) ∧ Γ.h₀.get? a = Option.none := by
    obtain ⟨m, cm, W⟩ := S2
    exact W.mu a ds hm
  have hne : ds ≠ [] := fun q => by rw [q] at hd; cases hd
  have hp : 0 < ds.length := List.length_pos_iff.mpr hne
  have hd' : ds[ds.length - 1]? = some d := by rw [← List.getLast?_eq_getElem?]; exact hd
  obtain ⟨v, bs, hv, rv, hb⟩ := rdvs_get hr _ _ hd'
  have hsz := readsAll_len hr
  have ht : s2.heap.IsList a vs.toArray := ⟨_, ho, rfl, n, rfl⟩
  cases r2 with
  | int _ u =>
    exact tail_any ht.typeIs PySem.F.slot_list_getitem.lookup (wpAny_getItem_list_neg ht (x := v) (by decide) (by simp; omega) (by decide) (by rw [show ((-1 : Int) + (vs.toArray.size : Int)).toNat = ds.length - 1 from by simp; omega]; simpa using hv) (kk _ bs s2 (g1.trans g2) rv fun b m => hn b (hb b m))) rfl⟩

/-! ### MJ -/

/-! ## cuts of texts and bytes -/
def cut (x : Str) (i j : Int) : Str := ⟨((x.cps.toList.drop i.toNat).take (j - i).toNat).toArray⟩
theorem cut_len (x : Str) (i j : Int) : (cut x i j).length ≤ x.length := by
  simp [cut, Str.length]; omega

theorem indices_clip (i j : Int) (n : Nat) (h0 : 0 ≤ i) (h1 : 0 ≤ j) : Builtin.Str.strSliceIndices (some i) (some j) 1 n = Builtin.Str.strSliceIndices (some (min i n)) (some (min j n)) 1 n := by
  unfold Builtin.Str.strSliceIndices
  simp only []
  have a1 : ¬ i < 0 := by omega
  have a2 : ¬ j < 0 := by omega
  have a3 : ¬ (min i (n : Int)) < 0 := by omega
  have a4 : ¬ (min j (n : Int)) < 0 := by omega
  have p : (1 : Int) > 0 := by decide
  rw [if_neg a1, if_neg a2, if_neg a3, if_neg a4, if_pos p, if_pos p, if_pos p, if_pos p]
  congr 1 <;> omega
theorem slice_cut (x : Str) (i j : Int) (h0 : 0 ≤ i) (h1 : i ≤ j) : Txt.slice x (some i) (some j) = cut x i j := by
  have hl : x.cps.toList.length = x.length := by simp [Str.length]
  have e : Txt.slice x (some i) (some j) = Txt.slice x (some (min i x.length)) (some (min j x.length)) := by
    unfold Txt.slice
    rw [indices_clip i j x.length h0 (by omega)]
  rw [e, beq_iff_eq.mp (slice_closesL (x := x) (i := min i x.length) (j := min j x.length) (by omega) (by omega) (by omega))]
  unfold cut
  congr 2
  by_cases hi : i ≤ x.length
  · have : min i (x.length : Int) = i := by omega
    rw [this]
    by_cases hj : j ≤ x.length
    · have : min j (x.length : Int) = j := by omega
      rw [this]
    · have : min j (x.length : Int) = x.length := by omega
      rw [this, List.take_of_length_le (by rw [List.length_drop]; omega), List.take_of_length_le (by rw [List.length_drop]; omega)]
  · have q1 : min i (x.length : Int) = x.length := by omega
    have q2 : min j (x.length : Int) = x.length := by omega
    rw [q1, q2, List.drop_eq_nil_of_le (by omega), List.drop_eq_nil_of_le (by omega)]
    simp
theorem slice_cut0 (x : Str) (j : Int) (h1 : 0 ≤ j) : Txt.slice x none (some j) = cut x 0 j := by
  rw [← slice_cut x 0 j (Int.le_refl _) h1]
  unfold Txt.slice
  have : Builtin.Str.strSliceIndices Option.none (some j) 1 x.length = Builtin.Str.strSliceIndices (some 0) (some j) 1 x.length := by
    unfold Builtin.Str.strSliceIndices
    simp only []
    have p : (1 : Int) > 0 := by decide
    have q : ¬ (0 : Int) < 0 := by decide
    rw [if_neg q, if_pos p, if_pos p, if_pos p]
    congr 1
  rw [this]

theorem sliceMade_post {x : Str} {t : Tok} {l u : Option (Int × Tok)} {Q : Value → Shared → Prop} {s : Shared} (h : ∀ t' tk, Q (.str (Txt.slice x (l.map (·.1)) (u.map (·.1))) t') { s with toks := tk }) (hl : x.length ≤ 16777216) : (sliceMade x t l u Option.none).post Q s := by
  have hle := PyProof.Txt.length_slice_le x (l.map (·.1)) (u.map (·.1))
  unfold sliceMade
  unfold Txt.slice at h hle
  by_cases c : ((1 : Int) == 1 && (Builtin.Str.strSliceIndices (l.map (·.1)) (u.map (·.1)) 1 x.length).length == x.length) = true
  · rw [if_pos c] at h hle
    show (if ((1 : Int) == 1 && (Builtin.Str.strSliceIndices (l.map (·.1)) (u.map (·.1)) 1 x.length).length == x.length) = true then _ else _ : Made).post Q s
    rw [if_pos c]
    exact h t s.toks
  · rw [if_neg c] at h hle
    show (if ((1 : Int) == 1 && (Builtin.Str.strSliceIndices (l.map (·.1)) (u.map (·.1)) 1 x.length).length == x.length) = true then _ else _ : Made).post Q s
    rw [if_neg c]
    exact ⟨by rw [sizeLine_eq]; exact Nat.le_trans hle hl, h _ _⟩

theorem Ev.cutS {Γ : Fc} {ρ μ e e1 e2 p pos} {x : Str} {i j : Int} (h : Ev Γ ρ μ e (.str x)) (h1 : Ev Γ ρ μ e1 (.int i)) (h2 : Ev Γ ρ μ e2 (.int j)) (h0 : 0 ≤ i) (hij : i ≤ j) (hx : x.length ≤ 16777216)
    (ht : ∀ o r, letTemporaryGo e o r = pure () := by intro _ _; rfl) : Ev Γ ρ μ (.Subscript e (.Slice (some e1) (some e2) Option.none p) pos) (.str (cut x i j)) := ⟨fun s Q E S k => by
  refine wpAny_Subscript_str_slice (h.run s _ E S fun v as s1 g1 r1 _ => h1.run s1 _ E (S.grow g1) fun v1 as1 s2 g2 r2 _ => h2.run s2 _ E ((S.grow g1).grow g2) fun v2 as2 s3 g3 r3 _ => ?_) ht
  cases r1 with
  | str _ t => cases r2 with
    | int _ u => cases r3 with
      | int _ w =>
        refine ⟨x, t, some (i, u), some (j, w), rfl, rfl, rfl, sliceMade_post (fun t' tk => ?_) hx⟩
        rw [show Txt.slice x (Option.map (·.1) (some (i, u))) (Option.map (·.1) (some (j, w))) = Mine.cut x i j from slice_cut x i j h0 hij]
        exact k _ [] _ (g1.trans (g2.trans (g3.trans ((Grow.push s3 _).trans (Grow.tok _ tk))))) (RdV.str _ _) (fun _ x => nomatch x)⟩
theorem Ev.cut0 {Γ : Fc} {ρ μ e e2 p pos} {x : Str} {j : Int} (h : Ev Γ ρ μ e (.str x)) (h2 : Ev Γ ρ μ e2 (.int j)) (h0 : 0 ≤ j) (hx : x.length ≤ 16777216)
    (ht : ∀ o r, letTemporaryGo e o r = pure () := by intro _ _; rfl) : Ev Γ ρ μ (.Subscript e (.Slice Option.none (some e2) Option.none p) pos) (.str (cut x 0 j)) := ⟨fun s Q E S k => by
  refine wpAny_Subscript_str_slice (h.run s _ E S fun v as s1 g1 r1 _ => ?_) ht
  refine wpAny_pure (h2.run s1 _ E (S.grow g1) fun v2 as2 s3 g3 r3 _ => ?_)
  cases r1 with
  | str _ t => cases r3 with
      | int _ w =>
        refine ⟨x, t, Option.none, some (j, w), rfl, rfl, rfl, sliceMade_post (fun t' tk => ?_) hx⟩
        rw [show Txt.slice x (Option.map (·.1) (Option.none : Option (Int × Tok))) (Option.map (·.1) (some (j, w))) = Mine.cut x 0 j from slice_cut0 x j h0]
        exact k _ [] _ (g1.trans (g3.trans ((Grow.push s3 _).trans (Grow.tok _ tk)))) (RdV.str _ _) (fun _ x => nomatch x)⟩

def cutB (b : Array UInt8) (i j : Int) : Array UInt8 := ((b.toList.drop i.toNat).take (j - i).toNat).toArray
theorem Ev.cutB {Γ : Fc} {ρ μ e e1 e2 p pos} {b : Array UInt8} {i j : Int} (h : Ev Γ ρ μ e (.bytes b)) (h1 : Ev Γ ρ μ e1 (.int i)) (h2 : Ev Γ ρ μ e2 (.int j)) (h0 : 0 ≤ i) (hij : i ≤ j) (hj : j ≤ b.size) (hx : b.size ≤ 16777216)
    (ht : ∀ o r, letTemporaryGo e o r = pure () := by intro _ _; rfl) : Ev Γ ρ μ (.Subscript e (.Slice (some e1) (some e2) Option.none p) pos) (.bytes (cutB b i j)) := ⟨fun s Q E S k => by
  refine wpAny_Subscript_Slice (T := "bytes") FB.slot_bytes_getitem.lookup (h.run s _ E S fun v as s1 g1 r1 _ => ?_) ht
  refine wpAny_Slice ?_
  refine h1.run s1 _ E (S.grow g1) fun v1 as1 s2 g2 r2 _ => h2.run s2 _ E ((S.grow g1).grow g2) fun v2 as2 s3 g3 r3 _ => wpAny_pure ?_
  obtain ⟨⟨t, rfl⟩, rfl⟩ := r1
  cases r2 with
    | int _ u => cases r3 with
      | int _ w =>
        have e : KBy.picked b (some i) (some j) = Mine.cutB b i j := by
          rw [KBc.picked_eq]
          unfold Mine.cutB
          simp only [Option.elim]
          rw [clipAt_in h0 (by omega), clipAt_in (by omega) hj]
          congr 3
          omega
        refine ⟨PySem.W.typeIs_bytes _ _ _, getItem_meets (PySem.W.typeIs_bytes _ _ _) (by decide) FB.slot_bytes_getitem FB.entry_bytes_getitem (FB.args_bytes_getitem_2 _ _) (KBc.meets_slice2 b t _ (.int i u) (.int j w))
          ⟨Heap.IsSliceOf.new _ _ _ _, by rw [sizeLine_eq]; exact Nat.le_trans (KBc.size_picked_le b _ _) hx, fun t' kk => ?_⟩⟩
        rw [e]
        exact k _ [] _ (g1.trans (g2.trans (g3.trans ((Grow.push s3 _).trans (Grow.tok _ _))))) ⟨⟨_, rfl⟩, rfl⟩ (fun _ x => nomatch x)⟩

/-! ### MK -/

/-! ## built-ins -/
theorem CallJ.of1 {n : Nat} {f : Value} {d1 d : D} (h : ∀ (w : World) (A : Around) (s : Shared) (v : Value) (as F : List Addr) (Q : Value → Shared → Prop) (E : Value → Shared → Prop), Amb w A F s → Rd F s.heap v d1 as →
    (∀ v as s', Grow s s' → Rd F s'.heap v d as → (∀ a ∈ as, s.heap.get? a = Option.none) → Q v s') → wpAny (model PG w) A (call f [v]) Q E s) : CallJ n f [d1] d := by
  refine ⟨?_⟩
  intro w mg mb A s vs F Q E G hF hd hu hh r k
  cases r with
  | cons r rs => cases rs with
    | nil => exact h w A s _ _ F Q E ⟨hF, ⟨mg, mb, G⟩, by omega, by omega, hh⟩ r k
theorem CallJ.of2 {n : Nat} {f : Value} {d1 d2 d : D} (h : ∀ (w : World) (A : Around) (s : Shared) (v1 v2 : Value) (as1 as2 F : List Addr) (Q : Value → Shared → Prop) (E : Value → Shared → Prop), Amb w A F s → Rd F s.heap v1 d1 as1 → Rd F s.heap v2 d2 as2 →
    (∀ v as s', Grow s s' → Rd F s'.heap v d as → (∀ a ∈ as, s.heap.get? a = Option.none) → Q v s') → wpAny (model PG w) A (call f [v1, v2]) Q E s) : CallJ n f [d1, d2] d := by
  refine ⟨?_⟩
  intro w mg mb A s vs F Q E G hF hd hu hh r k
  cases r with
  | cons r rs => cases rs with
    | cons r2 rs => cases rs with
      | nil => exact h w A s _ _ _ _ F Q E ⟨hF, ⟨mg, mb, G⟩, by omega, by omega, hh⟩ r r2 k

theorem CallJ.len {n : Nat} {x : Str} (hx : x.length ≤ 16777216) : CallJ n (.builtin "len") [.str x] (.int x.length) := .of1 fun w A s v as F Q E am r k => by
  cases r with
  | str _ t => exact PyProof.Rows.len_str (by omega) (k _ [] _ (Grow.tok s _) (RdV.int _ _) none_fresh)
theorem CallJ.max {n : Nat} {a b : Int} : CallJ n (.builtin "max") [.int a, .int b] (.int (if b > a then b else a)) := .of2 fun w A s v1 v2 as1 as2 F Q E am r1 r2 k => by
  cases r1 with
  | int _ t => cases r2 with
    | int _ u =>
      refine max_two_ints am.hnd fun h' tk hk => ?_
      by_cases c : b > a
      · rw [if_pos c] at k ⊢; exact k _ [] _ (Grow.heap tk hk) (RdV.int _ _) none_fresh
      · rw [if_neg c] at k ⊢; exact k _ [] _ (Grow.heap tk hk) (RdV.int _ _) none_fresh
theorem CallJ.min {n : Nat} {a b : Int} : CallJ n (.builtin "min") [.int a, .int b] (.int (if b < a then b else a)) := .of2 fun w A s v1 v2 as1 as2 F Q E am r1 r2 k => by
  cases r1 with
  | int _ t => cases r2 with
    | int _ u =>
      refine min_two_ints am.hnd fun h' tk hk => ?_
      by_cases c : b < a
      · rw [if_pos c] at k ⊢; exact k _ [] _ (Grow.heap tk hk) (RdV.int _ _) none_fresh
      · rw [if_neg c] at k ⊢; exact k _ [] _ (Grow.heap tk hk) (RdV.int _ _) none_fresh
theorem CallJ.abs {n : Nat} {a : Int} : CallJ n (.builtin "abs") [.int a] (.int (if a < 0 then -a else a)) := .of1 fun w A s v as F Q E am r k => by
  cases r with
  | int _ t => exact PyProof.Rows.call_abs_int fun u tk => k _ [] _ (Grow.tok s _) (RdV.int _ _) none_fresh
theorem CallJ.ord {n : Nat} {c : Nat} : CallJ n (.builtin "ord") [.str ⟨#[c]⟩] (.int c) := .of1 fun w A s v as F Q E am r k => by
  cases r with
  | str _ t => exact P.ord_of_char (k _ [] _ (Grow.tok s _) (RdV.int _ _) none_fresh)
def dec (i : Int) : Str := Str.ofString (toString i)
theorem log2_small {i : Int} (h : i.natAbs < 10 ^ 30) : i.natAbs.log2 < 1920 := by
  by_cases h0 : i.natAbs = 0
  · rw [h0]; decide +kernel
  · refine (Nat.log2_lt h0).mpr (Nat.lt_trans h ?_)
    decide +kernel
theorem CallJ.str {n : Nat} {i : Int} (h : i.natAbs < 10 ^ 30) : CallJ n (.type "str") [.int i] (.str (dec i)) := .of1 fun w A s v as F Q E am r k => by
  cases r with
  | int _ t => exact P.str_of_int (log2_small h) (k _ [] _ (Grow.tok s _) (RdV.str _ _) none_fresh)
theorem CallJ.divmod {n : Nat} {a b : Int} (hb : b ≠ 0) (hp : Builtin.divisionGoesByPylong a b = false) : CallJ n (.builtin "divmod") [.int a, .int b] (.tup [.int (a.fdiv b), .int (a.fmod b)]) := .of2 fun w A s v1 v2 as1 as2 F Q E am r1 r2 k => by
  cases r1 with
  | int _ t => cases r2 with
    | int _ u =>
      refine PyProof.Rows.divmod_int hb ?_ (.inl hp)
      have g := Grow.push s { cls := .type "tuple", data := .seq #[.int (a.fdiv b) s.toks, .int (a.fmod b) (s.toks + 1)] }
      refine k _ [] _ (g.trans (Grow.tok _ _)) (RdV.tuple (n := 0) (Heap.get?_push_size _ rfl) rfl rfl (fun m => ?_) (.cons (.int _ _) (.cons (.int _ _) .nil))) none_fresh
      obtain ⟨o, ho⟩ := am.forb _ m
      exact Nat.lt_irrefl _ (Heap.lt_size ho)

theorem intsAre_of {F : List Addr} {h : Heap} : ∀ {ns : List Int} {vs as}, RdVs F h vs (ns.map PyData.int) as → IntsAre vs ns
  | [], _, _, .nil => .nil
  | n :: ns, _, _, .cons (.int _ t) r => .cons n t (intsAre_of r)
theorem rdvs_ints {F : List Addr} {h : Heap} : ∀ {ns : List Int} {vs}, IntsAre vs ns → RdVs F h vs (ns.map PyData.int) []
  | _, _, .nil => .nil
  | _, _, .cons n t r => by
    have := RdVs.cons (F := F) (h := h) (.int n t) (rdvs_ints r)
    exact this

theorem CallJ.bytes {n : Nat} {ns : List Int} (hr : ∀ k ∈ ns, 0 ≤ k ∧ k < 256) (hz : ns.length ≤ 16777216) : CallJ n (.type "bytes") [.lst (ns.map PyData.int)] (.bytes (byteArr ns)) := .of1 fun w A s v as F Q E am r k => by
  cases r with
  | @list a o vs m _ as ho hc hd hrs =>
    have hi := intsAre_of hrs
    exact call_bytes_ints (vs := vs.toList) ⟨o, ho, hc, m, by rw [hd]⟩ hi hr (by rw [sizeLine_eq, hi.length]; exact hz) am.hnd fun h' t kk hk => k _ [] _ (Grow.heap kk hk) ⟨⟨_, rfl⟩, rfl⟩ none_fresh

theorem CallJ.sum {n : Nat} {ns : List Int} : CallJ n (.builtin "sum") [.tup (ns.map PyData.int)] (.int ns.sum) := .of1 fun w A s v as F Q E am r k => by
  cases r with
  | @tuple a o vs m _ as ho hc hd hF hrs =>
    have hi := intsAre_of hrs
    have hl : s.heap.IsTuple a vs.toList.toArray := ⟨o, ho, hc, m, by rw [hd]⟩
    obtain ⟨xs, hx⟩ := hi.allInts.items
    have hn : numsOf vs.toList.toArray.toList = ns := by rw [show vs.toList.toArray.toList = vs.toList from rfl, hi.numsOf]
    rw [hx] at hl hn
    rw [nums_intItems] at hn
    refine ktm_sumG am.hnd hl fun h' tk t' hk => ?_
    rw [preSum_eq, List.take_of_length_le (by simp), hn]
    exact k _ [] _ (Grow.heap tk hk) (RdV.int _ _) none_fresh

/-! ## lists: +, * -/
theorem rdvs_app {F : List Addr} {h : Heap} : ∀ {vs ds as vs' ds' as'}, RdVs F h vs ds as → RdVs F h vs' ds' as' → ∃ bs, RdVs F h (vs ++ vs') (ds ++ ds') bs ∧ ∀ b ∈ bs, b ∈ as ∨ b ∈ as'
  | _, _, _, _, _, as', .nil, r => ⟨as', r, fun b m => .inr m⟩
  | _, _, _, _, _, _, .cons (as := a1) h1 h2, r => by
    obtain ⟨bs, h3, h4⟩ := rdvs_app h2 r
    refine ⟨a1 ++ bs, .cons h1 h3, fun b m => ?_⟩
    rcases List.mem_append.mp m with m | m
    · exact .inl (List.mem_append_left _ m)
    · exact (h4 b m).imp (fun q => List.mem_append_right _ q) id
/-- the sum of two lists whose items are flat -/
theorem BinJ.addl {xs ys : List PyData} (hx : ∀ d ∈ xs, Plain d) (hy : ∀ d ∈ ys, Plain d) (hl : xs.length + ys.length ≤ 16777216) : BinJ .Add (.lst xs) (.lst ys) (.lst (xs ++ ys)) := by
  refine ⟨?_⟩
  intro w A s Q E v1 v2 as1 as2 F am r1 r2 k
  cases r1 with
  | @list a o vs n _ as ho hc hd hr => cases r2 with
    | @list a2 o2 vs2 n2 _ as2 ho2 hc2 hd2 hr2 =>
      obtain ⟨cls, dd, data, sl⟩ := o
      obtain ⟨cls2, dd2, data2, sl2⟩ := o2
      simp only at hc hd hc2 hd2
      subst hc hd hc2 hd2
      have e0 := readsAll_plain hr hx
      have e1 := readsAll_plain hr2 hy
      subst e0 e1
      obtain ⟨bs, hb, hbs⟩ := rdvs_app hr hr2
      have eb : bs = [] := by
        cases bs with
        | nil => rfl
        | cons b bs => exact (hbs b (.head _)).elim (fun x => nomatch x) (fun x => nomatch x)
      subst eb
      have l1 := readsAll_len hr
      have l2 := readsAll_len hr2
      refine concat_meets ⟨_, ho, rfl⟩ ⟨_, ho2, rfl⟩ noFill_list_add seq_list_add PySem.F.slot_list_add PySem.F.entry_list_add (PySem.F.args_list_add_2 _ _) (list_addW a a2 vs vs2 n n2 dd dd2 sl sl2 (by rw [sizeLine_eq]; simp at l1 l2; omega)) ⟨ho, ho2, ?_⟩
      have g := Grow.push s { cls := .type "list", data := .seq (vs ++ vs2) }
      refine k _ [s.heap.objs.size] _ g (RdV.list (n := 0) (Heap.get?_push_size _ rfl) rfl rfl ?_) fun b m => ?_
      · rw [Array.toList_append]
        exact RdVs.keeps g.1 hb
      · rw [List.mem_singleton.mp m]; exact Heap.get?_none_of_le (Nat.le_refl _)

/-! ### MU -/
open PySem.Builtin.Struct

theorem up_kind : builtinKind "_struct.unpack" = none := by decide +kernel
theorem up_plain : plainId "_struct.unpack" = true := by decide +kernel
theorem up_entry : entryFor table "_struct.unpack" = some Builtin.«_struct.unpack» := entryFor_of_tree (by kernel_rfl)
theorem up_args (a b : Value) : argsOk "_struct.unpack" ⟨[a, b], []⟩ := by unfold argsOk; kernel_rfl
theorem up_body (f : Str) (b : Array UInt8) (t u : Tok) : Builtin.«_struct.unpack» ⟨[.str f t, .bytes b u], []⟩ = (moduleFormat (.str f t) >>= fun F => unpackExact "_struct.unpack" (pure F) (.bytes b u)) := by kernel_rfl
def fHH : Format := { bigEndian := false, native := false, codes := [⟨'H', 1, 0, 2⟩, ⟨'H', 1, 2, 2⟩], size := 4, items := 2 }
theorem up_fHH (t : Tok) : moduleFormat (.str (Str.ofString "<HH") t) = pure fHH := by kernel_rfl
def fHB : Format := { bigEndian := false, native := false, codes := [⟨'H', 1, 0, 2⟩, ⟨'B', 1, 2, 1⟩], size := 3, items := 2 }
theorem up_fHB (t : Tok) : moduleFormat (.str (Str.ofString "<HB") t) = pure fHB := by kernel_rfl
def fHHHH : Format := { bigEndian := false, native := false, codes := [⟨'H', 1, 0, 2⟩, ⟨'H', 1, 2, 2⟩, ⟨'H', 1, 4, 2⟩, ⟨'H', 1, 6, 2⟩], size := 8, items := 4 }
theorem up_fHHHH (t : Tok) : moduleFormat (.str (Str.ofString "<HHHH") t) = pure fHHHH := by kernel_rfl
def fHHBB : Format := { bigEndian := false, native := false, codes := [⟨'H', 1, 0, 2⟩, ⟨'H', 1, 2, 2⟩, ⟨'B', 1, 4, 1⟩, ⟨'B', 1, 5, 1⟩], size := 6, items := 4 }
theorem up_fHHBB (t : Tok) : moduleFormat (.str (Str.ofString "<HHBB") t) = pure fHHBB := by kernel_rfl


theorem unp_HH (b : Array UInt8) : unpacked "_struct.unpack" fHH b 0 = (mkInt (natOf false (b.extract 0 2) : Nat) >>= fun v1 => mkInt (natOf false (b.extract 2 4) : Nat) >>= fun v2 => newTuple [v1, v2]) := by
  kernel_rfl
theorem unp_HB (b : Array UInt8) : unpacked "_struct.unpack" fHB b 0 = (mkInt (natOf false (b.extract 0 2) : Nat) >>= fun v1 => mkInt (natOf false (b.extract 2 3) : Nat) >>= fun v2 => newTuple [v1, v2]) := by
  kernel_rfl
theorem unp_HHHH (b : Array UInt8) : unpacked "_struct.unpack" fHHHH b 0 = (mkInt (natOf false (b.extract 0 2) : Nat) >>= fun v1 => mkInt (natOf false (b.extract 2 4) : Nat) >>= fun v2 => mkInt (natOf false (b.extract 4 6) : Nat) >>= fun v3 => mkInt (natOf false (b.extract 6 8) : Nat) >>= fun v4 => newTuple [v1, v2, v3, v4]) := by
  kernel_rfl
theorem unp_HHBB (b : Array UInt8) : unpacked "_struct.unpack" fHHBB b 0 = (mkInt (natOf false (b.extract 0 2) : Nat) >>= fun v1 => mkInt (natOf false (b.extract 2 4) : Nat) >>= fun v2 => mkInt (natOf false (b.extract 4 5) : Nat) >>= fun v3 => mkInt (natOf false (b.extract 5 6) : Nat) >>= fun v4 => newTuple [v1, v2, v3, v4]) := by
  kernel_rfl

theorem toByte {x : Int} (h0 : 0 ≤ x) (h1 : x < 256) : (x.toNat.toUInt8).toNat = x.toNat := by
  show x.toNat % 256 = x.toNat
  omega
theorem nat2 {x y : Int} (hx : 0 ≤ x ∧ x < 256) (hy : 0 ≤ y ∧ y < 256) : ((natOf false (byteArr [x, y]) : Nat) : Int) = x + 256 * y := by
  have : natOf false (byteArr [x, y]) = (0 * 256 + (y.toNat.toUInt8).toNat) * 256 + (x.toNat.toUInt8).toNat := rfl
  rw [this, toByte hx.1 hx.2, toByte hy.1 hy.2]
  omega
theorem nat1 {x : Int} (hx : 0 ≤ x ∧ x < 256) : ((natOf false (byteArr [x]) : Nat) : Int) = x := by
  have : natOf false (byteArr [x]) = 0 * 256 + (x.toNat.toUInt8).toNat := rfl
  rw [this, toByte hx.1 hx.2]
  omega

theorem unpack_run {n : Nat} {f : Str} {fm : Format} {b : Array UInt8} {d : D} (hf : ∀ t, moduleFormat (.str f t) = pure fm) (hz : (b.size != fm.size) = false)
    (h : ∀ (w : World) (A : Around) (s : Shared) (F : List Addr) (Q : Value → Shared → Prop) (E : Value → Shared → Prop), (∀ a ∈ F, ∃ o, s.heap.get? a = some o) → (∀ v as s', Grow s s' → Rd F s'.heap v d as → (∀ a ∈ as, s.heap.get? a = Option.none) → Q v s') → wpAny (model PG w) A (unpacked "_struct.unpack" fm b 0) Q E s) :
    CallJ n (.builtin "_struct.unpack") [.str f, .bytes b] d := .of2 fun w A s v1 v2 as1 as2 F Q E am r1 r2 k => by
  cases r1 with
  | str _ t =>
    obtain ⟨⟨u, rfl⟩, rfl⟩ := r2
    refine call_function_entry up_kind up_plain up_entry (up_args _ _) ?_
    rw [up_body, hf]
    refine wpAny_bind (wpAny_pure ?_)
    unfold unpackExact
    refine wpAny_bind (wpAny_of_eq KBd.like_eq ?_)
    refine wpAny_bind (wpAny_pure ?_)
    rw [hz]
    show wpAny _ _ (unpacked "_struct.unpack" fm b 0 >>= fun v => ret v) _ _ _
    exact wpAny_bind (h w A.in1 s F _ E am.forb fun v as s' g r n => wpAny_pure ⟨v, rfl, k v as s' g r n⟩)

theorem tuple_of {M : Model} {A : Around} {E : Value → Shared → Prop} {s : Shared} {F : List Addr} {Q : Value → Shared → Prop} {vs : List Value} {ds : List PyData} (hF : ∀ a ∈ F, ∃ o, s.heap.get? a = some o) (h : ∀ h', RdVs F h' vs ds []) (hl : vs.length ≤ 100)
    (k : ∀ v as s', Grow s s' → Rd F s'.heap v (.tup ds) as → (∀ a ∈ as, s.heap.get? a = Option.none) → Q v s') : wpAny M A (newTuple vs) Q E s := by
  have g := Grow.push s { cls := .type "tuple", data := .seq vs.toArray }
  refine wpAny_newObj_type (k _ [] _ g (RdV.tuple (n := 0) (Heap.get?_push_size _ rfl) rfl rfl (fun m => ?_) (h _)) none_fresh) (by show vs.toArray.size ≤ sizeLine; rw [List.size_toArray, sizeLine_eq]; omega)
  obtain ⟨o, ho⟩ := hF _ m
  exact Nat.lt_irrefl _ (Heap.lt_size ho)

theorem unpack_HH {n : Nat} {x0 x1 x2 x3 : Int} (h0 : 0 ≤ x0 ∧ x0 < 256) (h1 : 0 ≤ x1 ∧ x1 < 256) (h2 : 0 ≤ x2 ∧ x2 < 256) (h3 : 0 ≤ x3 ∧ x3 < 256) :
    CallJ n (.builtin "_struct.unpack") [.str (Str.ofString "<HH"), .bytes (byteArr [x0, x1, x2, x3])] (.tup [.int (x0 + 256 * x1), .int (x2 + 256 * x3)]) := by
  refine unpack_run up_fHH rfl fun w A s F Q E hF k => ?_
  rw [unp_HH]
  refine wpAny_bind (wpAny_mkInt (wpAny_bind (wpAny_mkInt ?_)))
  have e1 : (byteArr [x0, x1, x2, x3]).extract 0 2 = byteArr [x0, x1] := rfl
  have e2 : (byteArr [x0, x1, x2, x3]).extract 2 4 = byteArr [x2, x3] := rfl
  rw [e1, e2, nat2 h0 h1, nat2 h2 h3]
  refine tuple_of (F := F) hF (fun h' => .cons (.int _ _) (.cons (.int _ _) .nil)) (by simp) fun v as s' g r n => k v as s' ((Grow.tok s _).trans g) r n
theorem unpack_HB {n : Nat} {x0 x1 x2 : Int} (h0 : 0 ≤ x0 ∧ x0 < 256) (h1 : 0 ≤ x1 ∧ x1 < 256) (h2 : 0 ≤ x2 ∧ x2 < 256) :
    CallJ n (.builtin "_struct.unpack") [.str (Str.ofString "<HB"), .bytes (byteArr [x0, x1, x2])] (.tup [.int (x0 + 256 * x1), .int x2]) := by
  refine unpack_run up_fHB rfl fun w A s F Q E hF k => ?_
  rw [unp_HB]
  refine wpAny_bind (wpAny_mkInt (wpAny_bind (wpAny_mkInt ?_)))
  have e1 : (byteArr [x0, x1, x2]).extract 0 2 = byteArr [x0, x1] := rfl
  have e2 : (byteArr [x0, x1, x2]).extract 2 3 = byteArr [x2] := rfl
  rw [e1, e2, nat2 h0 h1, nat1 h2]
  refine tuple_of (F := F) hF (fun h' => .cons (.int _ _) (.cons (.int _ _) .nil)) (by simp) fun v as s' g r n => k v as s' ((Grow.tok s _).trans g) r n
theorem unpack_HHHH {n : Nat} {x0 x1 x2 x3 x4 x5 x6 x7 : Int} (h0 : 0 ≤ x0 ∧ x0 < 256) (h1 : 0 ≤ x1 ∧ x1 < 256) (h2 : 0 ≤ x2 ∧ x2 < 256) (h3 : 0 ≤ x3 ∧ x3 < 256)
    (h4 : 0 ≤ x4 ∧ x4 < 256) (h5 : 0 ≤ x5 ∧ x5 < 256) (h6 : 0 ≤ x6 ∧ x6 < 256) (h7 : 0 ≤ x7 ∧ x7 < 256) :
    CallJ n (.builtin "_struct.unpack") [.str (Str.ofString "<HHHH"), .bytes (byteArr [x0, x1, x2, x3, x4, x5, x6, x7])] (.tup [.int (x0 + 256 * x1), .int (x2 + 256 * x3), .int (x4 + 256 * x5), .int (x6 + 256 * x7)]) := by
  refine unpack_run up_fHHHH rfl fun w A s F Q E hF k => ?_
  rw [unp_HHHH]
  refine wpAny_bind (wpAny_mkInt (wpAny_bind (wpAny_mkInt (wpAny_bind (wpAny_mkInt (wpAny_bind (wpAny_mkInt ?_)))))))
  have e1 : (byteArr [x0, x1, x2, x3, x4, x5, x6, x7]).extract 0 2 = byteArr [x0, x1] := rfl
  have e2 : (byteArr [x0, x1, x2, x3, x4, x5, x6, x7]).extract 2 4 = byteArr [x2, x3] := rfl
  have e3 : (byteArr [x0, x1, x2, x3, x4, x5, x6, x7]).extract 4 6 = byteArr [x4, x5] := rfl
  have e4 : (byteArr [x0, x1, x2, x3, x4, x5, x6, x7]).extract 6 8 = byteArr [x6, x7] := rfl
  rw [e1, e2, e3, e4, nat2 h0 h1, nat2 h2 h3, nat2 h4 h5, nat2 h6 h7]
  refine tuple_of (F := F) hF (fun h' => .cons (.int _ _) (.cons (.int _ _) (.cons (.int _ _) (.cons (.int _ _) .nil)))) (by simp) fun v as s' g r n => k v as s' ((Grow.tok s _).trans g) r n
theorem unpack_HHBB {n : Nat} {x0 x1 x2 x3 x4 x5 : Int} (h0 : 0 ≤ x0 ∧ x0 < 256) (h1 : 0 ≤ x1 ∧ x1 < 256) (h2 : 0 ≤ x2 ∧ x2 < 256) (h3 : 0 ≤ x3 ∧ x3 < 256)
    (h4 : 0 ≤ x4 ∧ x4 < 256) (h5 : 0 ≤ x5 ∧ x5 < 256) :
    CallJ n (.builtin "_struct.unpack") [.str (Str.ofString "<HHBB"), .bytes (byteArr [x0, x1, x2, x3, x4, x5])] (.tup [.int (x0 + 256 * x1), .int (x2 + 256 * x3), .int x4, .int x5]) := by
  refine unpack_run up_fHHBB rfl fun w A s F Q E hF k => ?_
  rw [unp_HHBB]
  refine wpAny_bind (wpAny_mkInt (wpAny_bind (wpAny_mkInt (wpAny_bind (wpAny_mkInt (wpAny_bind (wpAny_mkInt ?_)))))))
  have e1 : (byteArr [x0, x1, x2, x3, x4, x5]).extract 0 2 = byteArr [x0, x1] := rfl
  have e2 : (byteArr [x0, x1, x2, x3, x4, x5]).extract 2 4 = byteArr [x2, x3] := rfl
  have e3 : (byteArr [x0, x1, x2, x3, x4, x5]).extract 4 5 = byteArr [x4] := rfl
  have e4 : (byteArr [x0, x1, x2, x3, x4, x5]).extract 5 6 = byteArr [x5] := rfl
  rw [e1, e2, e3, e4, nat2 h0 h1, nat2 h2 h3, nat1 h4, nat1 h5]
  refine tuple_of (F := F) hF (fun h' => .cons (.int _ _) (.cons (.int _ _) (.cons (.int _ _) (.cons (.int _ _) .nil)))) (by simp) fun v as s' g r n => k v as s' ((Grow.tok s _).trans g) r n

/-! ### ML -/

/-! ## % -/
theorem BinJ.fmtI {f : Str} {g : Str} {T : Int → Str} {i : Int} (hf : f = g) (h0 : 0 ≤ i) (h1 : i < 10 ^ 10)
    (hm : ∀ (t u : Tok) (i : Int), 0 ≤ i → i < 10 ^ 10 → i.natAbs.log2 < 1920 → ((i.natAbs : Nat) : Int).natAbs.log2 < 1920 → Meets (Builtin.«str.__mod__» ⟨[.str g t, .int i u], []⟩) (fun _ R s => ∀ t' k, R (.ok (.ret (.str (T i) t'))) { s with toks := k })) :
    BinJ .Mod (.str f) (.int i) (.str (T i)) := by
  refine ⟨?_⟩
  intro w A s Q E v1 v2 as1 as2 F am r1 r2 k
  cases r1 with
  | str _ t => cases r2 with
    | int _ u => exact KPc.mod_int (T := T) hf h0 h1 (hm t u) fun t' kk => k _ [] _ (Grow.tok s _) (RdV.str _ _) none_fresh

set_option maxHeartbeats 4000000 in
theorem fmt_R {i : Int} (h0 : 0 ≤ i) (h1 : i < 10 ^ 10) : BinJ .Mod (.str (Str.ofString "R%d")) (.int i) (.str (Str.ofString "R" ++ dec i)) := by
  refine BinJ.fmtI (g := ⟨#[82, 37, 100]⟩) (T := fun i => Str.ofString "R" ++ dec i) (by decide +kernel) h0 h1 ?_
  unfold dec
  kpc_run
set_option maxHeartbeats 4000000 in
theorem fmt_C {i : Int} (h0 : 0 ≤ i) (h1 : i < 10 ^ 10) : BinJ .Mod (.str (Str.ofString "C%d")) (.int i) (.str (Str.ofString "C" ++ dec i)) := by
  refine BinJ.fmtI (g := ⟨#[67, 37, 100]⟩) (T := fun i => Str.ofString "C" ++ dec i) (by decide +kernel) h0 h1 ?_
  unfold dec
  kpc_run
set_option maxHeartbeats 4000000 in
theorem fmt_S {i : Int} (h0 : 0 ≤ i) (h1 : i < 10 ^ 10) : BinJ .Mod (.str (Str.ofString "$%d")) (.int i) (.str (Str.ofString "$" ++ dec i)) := by
  refine BinJ.fmtI (g := ⟨#[36, 37, 100]⟩) (T := fun i => Str.ofString "$" ++ dec i) (by decide +kernel) h0 h1 ?_
  unfold dec
  kpc_run
set_option maxHeartbeats 4000000 in
theorem fmt_D {i : Int} (h0 : 0 ≤ i) (h1 : i < 10 ^ 10) : BinJ .Mod (.str (Str.ofString "%d")) (.int i) (.str (dec i)) := by
  refine BinJ.fmtI (g := ⟨#[37, 100]⟩) (T := fun i => dec i) (by decide +kernel) h0 h1 ?_
  unfold dec
  kpc_run

/-! ### ML2 -/

theorem ofString_append (a b : String) : Str.ofString (a ++ b) = Str.ofString a ++ Str.ofString b := by
  rw [Str.ofString_eq_toList, Str.ofString_eq_toList, Str.ofString_eq_toList, String.toList_append, List.map_append]
  show _ = Str.append _ _
  unfold Str.append
  simp
theorem dec_neg {n : Int} (h : n < 0) : dec n = Str.ofString "-" ++ dec (-n) := by
  unfold dec
  rw [toString_neg h, ofString_append]
  congr 3
  omega

theorem percent_neg (c : Builtin.Str.Percent) (h1 : c.alt = false) (h2 : c.type = 100 ∨ c.type = 105 ∨ c.type = 117) (h3 : c.prec = none) {n : Int} (hn : n < 0) (d : List Nat) : Builtin.Str.percentInt c (decide (n < 0)) d = 45 :: d := by
  have hneg : decide (n < 0) = true := decide_eq_true hn
  unfold Builtin.Str.percentInt
  rcases h2 with h2 | h2 | h2 <;> simp [h1, h2, h3, hneg]

section
open KPc
variable {M : Model} {A : Around} {E : Value → Shared → Prop} {s : Shared} {l : List Nat} {p : List Value} {r : List Nat}
  {f : Nat → List Value × Builtin.Str.Writer × List Nat → Sem (ForInStep (List Value × Builtin.Str.Writer × List Nat))} {Q : List Value × Builtin.Str.Writer × List Nat → Shared → Prop}
  {w : Builtin.Str.Writer} {T x y : PySem.Str} {N K : Nat} {o : Option Value}
theorem after_neg {c : Builtin.Str.Percent} {n : Int} {d : List Nat} (g : Good w T N) (h1 : c.alt = false) (h2 : c.type = 100 ∨ c.type = 105 ∨ c.type = 117) (h3 : c.prec = none) (hn : n < 0) (hm : -(10 ^ 9) < n)
    (hd : d = (PySem.Str.ofString (toString ((n.natAbs : Nat) : Int))).cps.toList) (ho : o = none) (h : ∀ w', Good w' (T ++ PySem.Str.ofString (toString n)) (N + 11) → wpAny M A (forIn l (p, w', r) f) Q E s) :
    wpAny M A (forIn l (p, w.add ⟨(Builtin.Str.percentInt c (decide (n < 0)) d).toArray⟩ o, r) f) Q E s := by
  have en : ((n.natAbs : Nat) : Int) = -n := by omega
  have e : (⟨(45 :: d).toArray⟩ : PySem.Str) = ⟨(PySem.Str.ofString (toString n)).cps.toList.toArray⟩ := by
    have := dec_neg hn
    unfold dec at this
    rw [this, PySem.Str.cps_append, hd, en, show (Str.ofString "-").cps = #[45] from by decide +kernel]
    simp
  rw [percent_neg c h1 h2 h3 hn, e]
  refine after_str g ?_ (obj_none ho) h
  have := dec_neg hn
  unfold dec at this
  rw [this, PySem.Str.length_append]
  have := toString_length_le (v := -n) (by omega) (k := 10) (by decide) (by omega)
  have e1 : (Str.ofString "-").length = 1 := by decide +kernel
  omega
end

local macro_rules | `(tactic| kpc_piece) => `(tactic| (refine after_neg (by kpc_g) rfl (by kpc_kind) rfl (by with_reducible assumption) (by with_reducible assumption) rfl (by kpc_none) ?_; intro _ _))

theorem BinJ.fmtN {f : Str} {g : Str} {T : Str} {i : Int} (hf : f = g) (h0 : i < 0) (h1 : -(10 ^ 9) < i)
    (hm : ∀ (t u : Tok), i.natAbs.log2 < 1920 → ((i.natAbs : Nat) : Int).natAbs.log2 < 1920 → Meets (Builtin.«str.__mod__» ⟨[.str g t, .int i u], []⟩) (fun _ R s => ∀ t' k, R (.ok (.ret (.str T t'))) { s with toks := k })) :
    BinJ .Mod (.str f) (.int i) (.str T) := by
  refine ⟨?_⟩
  intro w A s Q E v1 v2 as1 as2 F am r1 r2 k
  cases r1 with
  | str _ t => cases r2 with
    | int _ u => exact KPc.mod_lit (T := T) hf (log2_small (by omega)) (hm t u) fun t' kk => k _ [] _ (Grow.tok s _) (RdV.str _ _) none_fresh

set_option maxHeartbeats 4000000 in
theorem fmt_Rb_neg {i : Int} (h0 : i < 0) (h1 : -(10 ^ 9) < i) : BinJ .Mod (.str (Str.ofString "R[%d]")) (.int i) (.str (Str.ofString "R[" ++ dec i ++ Str.ofString "]")) := by
  refine BinJ.fmtN (g := ⟨#[82, 91, 37, 100, 93]⟩) (T := Str.ofString "R[" ++ dec i ++ Str.ofString "]") (by decide +kernel) h0 h1 ?_
  unfold dec
  kpc_run
set_option maxHeartbeats 4000000 in
theorem fmt_Rb_pos {i : Int} (h0 : 0 ≤ i) (h1 : i < 10 ^ 10) : BinJ .Mod (.str (Str.ofString "R[%d]")) (.int i) (.str (Str.ofString "R[" ++ dec i ++ Str.ofString "]")) := by
  refine BinJ.fmtI (g := ⟨#[82, 91, 37, 100, 93]⟩) (T := fun i => Str.ofString "R[" ++ dec i ++ Str.ofString "]") (by decide +kernel) h0 h1 ?_
  unfold dec
  kpc_run
theorem fmt_Rb {i : Int} (h0 : -(10 ^ 9) < i) (h1 : i < 10 ^ 10) : BinJ .Mod (.str (Str.ofString "R[%d]")) (.int i) (.str (Str.ofString "R[" ++ dec i ++ Str.ofString "]")) := by
  by_cases h : i < 0
  · exact fmt_Rb_neg h h0
  · exact fmt_Rb_pos (by omega) h1
set_option maxHeartbeats 4000000 in
theorem fmt_Cb_neg {i : Int} (h0 : i < 0) (h1 : -(10 ^ 9) < i) : BinJ .Mod (.str (Str.ofString "C[%d]")) (.int i) (.str (Str.ofString "C[" ++ dec i ++ Str.ofString "]")) := by
  refine BinJ.fmtN (g := ⟨#[67, 91, 37, 100, 93]⟩) (T := Str.ofString "C[" ++ dec i ++ Str.ofString "]") (by decide +kernel) h0 h1 ?_
  unfold dec
  kpc_run
set_option maxHeartbeats 4000000 in
theorem fmt_Cb_pos {i : Int} (h0 : 0 ≤ i) (h1 : i < 10 ^ 10) : BinJ .Mod (.str (Str.ofString "C[%d]")) (.int i) (.str (Str.ofString "C[" ++ dec i ++ Str.ofString "]")) := by
  refine BinJ.fmtI (g := ⟨#[67, 91, 37, 100, 93]⟩) (T := fun i => Str.ofString "C[" ++ dec i ++ Str.ofString "]") (by decide +kernel) h0 h1 ?_
  unfold dec
  kpc_run
theorem fmt_Cb {i : Int} (h0 : -(10 ^ 9) < i) (h1 : i < 10 ^ 10) : BinJ .Mod (.str (Str.ofString "C[%d]")) (.int i) (.str (Str.ofString "C[" ++ dec i ++ Str.ofString "]")) := by
  by_cases h : i < 0
  · exact fmt_Cb_neg h h0
  · exact fmt_Cb_pos (by omega) h1

/-! ### ML3 -/

/-! ## % with a tuple -/
theorem BinJ.fmtT {f : Str} {g : Str} {T : Str} {ds : List PyData} (hf : f = g)
    (hm : ∀ (t : Tok) (b : Addr) (its : Array Value), (∃ F h as0, RdVs F h its.toList ds as0) → Meets (Builtin.«str.__mod__» ⟨[.str g t, .ref b], []⟩) (fun _ R s => IsTup s.heap b its ∧ ∀ t' k, R (.ok (.ret (.str T t'))) { s with toks := k })) :
    BinJ .Mod (.str f) (.tup ds) (.str T) := by
  refine ⟨?_⟩
  intro w A s Q E v1 v2 as1 as2 F am r1 r2 k
  subst hf
  cases r1 with
  | str _ t => cases r2 with
    | @tuple a o vs n _ as0 ho hc hd hF hr =>
      have ht : IsTup s.heap a vs := ⟨o, ho, hc, n, hd⟩
      exact KPt.bin_left (T := "str") (U := "tuple") (op := .Mod) (by decide) (typeIs_str s f t) (show s.TypeIs (.ref a) "tuple" from ⟨o, ho, hc⟩) PySem.F.fills_str_mod KPt.fills_tuple PySem.F.slot_str_mod
        (call_meets PySem.F.slot_str_mod (typeIs_str s f t) PySem.F.entry_str_mod (PySem.F.args_str_mod_2 _ _) (hm t a vs ⟨F, s.heap, _, hr⟩) ⟨ht, fun t' kk => ⟨(fun e => nomatch e), k _ [] _ (Grow.tok s _) (RdV.str _ _) none_fresh⟩⟩)

theorem rdvs_inv {F : List Addr} {h : Heap} {vs : List Value} {d : PyData} {ds : List PyData} {as0 : List Addr} (r : RdVs F h vs (d :: ds) as0) : ∃ v vs' bs cs, vs = v :: vs' ∧ RdV F h v d bs ∧ RdVs F h vs' ds cs := by
  cases r with
  | cons h1 h2 => exact ⟨_, _, _, _, rfl, h1, h2⟩
theorem rdvs_inv0 {F : List Addr} {h : Heap} {vs : List Value} {as0 : List Addr} (r : RdVs F h vs [] as0) : vs = [] := by
  cases r; rfl
theorem rdv_str {F : List Addr} {h : Heap} {v : Value} {x : Str} {as0 : List Addr} (r : RdV F h v (.str x) as0) : ∃ t, v = .str x t := by
  cases r; exact ⟨_, rfl⟩
theorem rdv_int {F : List Addr} {h : Heap} {v : Value} {x : Int} {as0 : List Addr} (r : RdV F h v (.int x) as0) : ∃ t, v = .int x t := by
  cases r; exact ⟨_, rfl⟩
theorem two_si {F : List Addr} {h : Heap} {vs : List Value} {x : Str} {i : Int} {as0} (r : RdVs F h vs [.str x, .int i] as0) : ∃ t u, vs = [.str x t, .int i u] := by
  obtain ⟨v, vs', _, _, rfl, h1, r⟩ := rdvs_inv r
  obtain ⟨v', vs', _, _, rfl, h2, r⟩ := rdvs_inv r
  rw [rdvs_inv0 r]
  obtain ⟨t, rfl⟩ := rdv_str h1
  obtain ⟨u, rfl⟩ := rdv_int h2
  exact ⟨t, u, rfl⟩
theorem two_ii {F : List Addr} {h : Heap} {vs : List Value} {x i : Int} {as0} (r : RdVs F h vs [.int x, .int i] as0) : ∃ t u, vs = [.int x t, .int i u] := by
  obtain ⟨v, vs', _, _, rfl, h1, r⟩ := rdvs_inv r
  obtain ⟨v', vs', _, _, rfl, h2, r⟩ := rdvs_inv r
  rw [rdvs_inv0 r]
  obtain ⟨t, rfl⟩ := rdv_int h1
  obtain ⟨u, rfl⟩ := rdv_int h2
  exact ⟨t, u, rfl⟩
theorem two_ss {F : List Addr} {h : Heap} {vs : List Value} {x i : Str} {as0} (r : RdVs F h vs [.str x, .str i] as0) : ∃ t u, vs = [.str x t, .str i u] := by
  obtain ⟨v, vs', _, _, rfl, h1, r⟩ := rdvs_inv r
  obtain ⟨v', vs', _, _, rfl, h2, r⟩ := rdvs_inv r
  rw [rdvs_inv0 r]
  obtain ⟨t, rfl⟩ := rdv_str h1
  obtain ⟨u, rfl⟩ := rdv_str h2
  exact ⟨t, u, rfl⟩
theorem one_i {F : List Addr} {h : Heap} {vs : List Value} {i : Int} {as0} (r : RdVs F h vs [.int i] as0) : ∃ u, vs = [.int i u] := by
  obtain ⟨v, vs', _, _, rfl, h1, r⟩ := rdvs_inv r
  rw [rdvs_inv0 r]
  obtain ⟨t, rfl⟩ := rdv_int h1
  exact ⟨t, rfl⟩

set_option maxHeartbeats 4000000 in
/-- '%s%d' -/
theorem fmt_sd {x : Str} {i : Int} (hx : x.length ≤ 1000000) (h0 : 0 ≤ i) (h1 : i < 10 ^ 10) : BinJ .Mod (.str (Str.ofString "%s%d")) (.tup [.str x, .int i]) (.str (x ++ dec i)) := by
  refine BinJ.fmtT (g := ⟨#[37, 115, 37, 100]⟩) (by decide +kernel) ?_
  intro t b its ⟨F, h, as, hr⟩
  obtain ⟨t1, t2, e⟩ := two_si hr
  obtain rfl : its = #[.str x t1, .int i t2] := by rw [← Array.toArray_toList (xs := its), e]
  unfold dec
  kpt_run

/-! ### ML4 -/

set_option maxHeartbeats 4000000 in
/-- 'R%dC%d' -/
theorem fmt_rc {x i : Int} (hx : 0 ≤ x) (hx1 : x < 10 ^ 10) (h0 : 0 ≤ i) (h1 : i < 10 ^ 10) : BinJ .Mod (.str (Str.ofString "R%dC%d")) (.tup [.int x, .int i]) (.str (Str.ofString "R" ++ dec x ++ Str.ofString "C" ++ dec i)) := by
  refine BinJ.fmtT (g := ⟨#[82, 37, 100, 67, 37, 100]⟩) (by decide +kernel) ?_
  intro t b its ⟨F, h, as, hr⟩
  obtain ⟨t1, t2, e⟩ := two_ii hr
  obtain rfl : its = #[.int x t1, .int i t2] := by rw [← Array.toArray_toList (xs := its), e]
  unfold dec
  kpt_run
set_option maxHeartbeats 4000000 in
/-- '$%s$%d' -/
theorem fmt_ss {x : Str} {i : Int} (hx : x.length ≤ 1000000) (h0 : 0 ≤ i) (h1 : i < 10 ^ 10) : BinJ .Mod (.str (Str.ofString "$%s$%d")) (.tup [.str x, .int i]) (.str (Str.ofString "$" ++ x ++ Str.ofString "$" ++ dec i)) := by
  refine BinJ.fmtT (g := ⟨#[36, 37, 115, 36, 37, 100]⟩) (by decide +kernel) ?_
  intro t b its ⟨F, h, as, hr⟩
  obtain ⟨t1, t2, e⟩ := two_si hr
  obtain rfl : its = #[.str x t1, .int i t2] := by rw [← Array.toArray_toList (xs := its), e]
  unfold dec
  kpt_run
set_option maxHeartbeats 4000000 in
/-- '(*%s%d)' -/
theorem fmt_star {x : Str} {i : Int} (hx : x.length ≤ 1000000) (h0 : 0 ≤ i) (h1 : i < 10 ^ 10) : BinJ .Mod (.str (Str.ofString "(*%s%d)")) (.tup [.str x, .int i]) (.str (Str.ofString "(*" ++ x ++ dec i ++ Str.ofString ")")) := by
  refine BinJ.fmtT (g := ⟨#[40, 42, 37, 115, 37, 100, 41]⟩) (by decide +kernel) ?_
  intro t b its ⟨F, h, as, hr⟩
  obtain ⟨t1, t2, e⟩ := two_si hr
  obtain rfl : its = #[.str x t1, .int i t2] := by rw [← Array.toArray_toList (xs := its), e]
  unfold dec
  kpt_run
set_option maxHeartbeats 4000000 in
/-- '$%d' % (i,) -/
theorem fmt_S1 {i : Int} (h0 : 0 ≤ i) (h1 : i < 10 ^ 10) : BinJ .Mod (.str (Str.ofString "$%d")) (.tup [.int i]) (.str (Str.ofString "$" ++ dec i)) := by
  refine BinJ.fmtT (g := ⟨#[36, 37, 100]⟩) (by decide +kernel) ?_
  intro t b its ⟨F, h, as, hr⟩
  obtain ⟨t1, e⟩ := one_i hr
  obtain rfl : its = #[.int i t1] := by rw [← Array.toArray_toList (xs := its), e]
  unfold dec
  kpt_run
set_option maxHeartbeats 4000000 in
/-- '%s:%s' -/
theorem fmt_colon {x y : Str} (hx : x.length ≤ 1000000) (hy : y.length ≤ 1000000) : BinJ .Mod (.str (Str.ofString "%s:%s")) (.tup [.str x, .str y]) (.str (x ++ Str.ofString ":" ++ y)) := by
  refine BinJ.fmtT (g := ⟨#[37, 115, 58, 37, 115]⟩) (by decide +kernel) ?_
  intro t b its ⟨F, h, as, hr⟩
  obtain ⟨t1, t2, e⟩ := two_ss hr
  obtain rfl : its = #[.str x t1, .str y t2] := by rw [← Array.toArray_toList (xs := its), e]
  kpt_run

/-! ### MM -/

/-! ## comprehensions -/
mutual
theorem rdv_fun {F F' : List Addr} {h : Heap} : ∀ {v d as d' as'}, RdV F h v d as → RdV F' h v d' as' → d = d'
  | _, _, _, _, _, .none, .none => rfl
  | _, _, _, _, _, .bool _, .bool _ => rfl
  | _, _, _, _, _, .int _ _, .int _ _ => rfl
  | _, _, _, _, _, .str _ _, .str _ _ => rfl
  | _, _, _, _, _, .list ho hc hd hr, .list ho' hc' hd' hr' => by
    rw [ho] at ho'; cases ho'
    rw [hd] at hd'; cases hd'
    rw [rdvs_fun hr hr']
  | _, _, _, _, _, .tuple ho hc hd _ hr, .tuple ho' hc' hd' _ hr' => by
    rw [ho] at ho'; cases ho'
    rw [hd] at hd'; cases hd'
    rw [rdvs_fun hr hr']
  | _, _, _, _, _, .list ho hc hd hr, .tuple ho' hc' hd' _ hr' => by
    rw [ho] at ho'; cases ho'
    rw [hc] at hc'; exact absurd hc' (by decide)
  | _, _, _, _, _, .tuple ho hc hd _ hr, .list ho' hc' hd' hr' => by
    rw [ho] at ho'; cases ho'
    rw [hc] at hc'; exact absurd hc' (by decide)
theorem rdvs_fun {F F' : List Addr} {h : Heap} : ∀ {vs ds as ds' as'}, RdVs F h vs ds as → RdVs F' h vs ds' as' → ds = ds'
  | _, _, _, _, _, .nil, .nil => rfl
  | _, _, _, _, _, .cons h1 h2, .cons h1' h2' => by rw [rdv_fun h1 h1', rdvs_fun h2 h2']
end

structure SrcJ (Γ : Fc) (ρ : Loc) (μ : Mu) (iter : Expr) (ds : List PyData) : Prop where
  run : ∀ (s : Shared) (Q : Value → Shared → Prop) (E : Value → Shared → Prop), St Γ ρ μ s →
    (∀ (s₁ s₂ : Shared) (I : Addr) (fp wr : List Addr) (P : Nat → Value → Prop) (St₀ : Nat → Heap → Prop), Grow s s₁ → Grow s₁ s₂ → s₁.heap.objs.size ≤ s₂.heap.objs.size → Walks PG Γ.w Γ.A I fp wr ds.length P St₀ → St₀ 0 s₂.heap → (∀ b ∈ fp, b < s₂.heap.objs.size) →
      (∀ b ∈ wr, s₁.heap.get? b = Option.none) → (∀ i v, P i v → i < ds.length → ∃ d as, ds[i]? = some d ∧ RdV Γ.F s₁.heap v d as ∧ ∀ a ∈ as, a ∉ Γ.Z μ) → Q (.ref I) s₂) →
    wpAny Γ.M Γ.A (eval iter Γ.env) (fun xv s' => wpAny Γ.M Γ.A (pyIter xv) Q E s') E s
theorem SrcJ.list {Γ : Fc} {ρ μ iter ds} (h : Ev Γ ρ μ iter (.lst ds)) : SrcJ Γ ρ μ iter ds := ⟨fun s Q E S k => by
  refine h.run s _ E S fun v as s1 g r n => ?_
  have S1 := S.grow g
  cases r with
  | @list l o vs nn _ as ho hc hd hr =>
    have hl : s1.heap.IsList l vs := ⟨o, ho, hc, nn, hd⟩
    refine wpAny_pyIter_list hl ?_
    have g2 := Grow.push s1 { cls := .type "list_iterator", data := .fields #[.ref l, .int 0 0] }
    have hne : l ≠ s1.heap.objs.size := Nat.ne_of_lt (Heap.lt_size ho)
    have hsz : vs.size = ds.length := by simpa using readsAll_len hr
    refine k s1 _ s1.heap.objs.size _ _ _ _ g g2 (by show _ ≤ (s1.heap.push _).objs.size; rw [Heap.size_push]; exact Nat.le_succ _) (hsz ▸ Walks.list S1.amb.hnd s1.heap.objs.size l hne vs) ⟨⟨_, Heap.get?_push_size _ rfl, rfl, rfl⟩, hl.push _⟩ (fun b hb => ?_) (fun b hb => ?_) fun i v hP hi => ?_
    · show b < (s1.heap.push _).objs.size
      rw [Heap.size_push]
      rcases List.mem_cons.mp hb with rfl | hb
      · exact Nat.lt_succ_self _
      · rw [List.mem_singleton.mp hb]; exact Nat.lt_succ_of_lt (Heap.lt_size ho)
    · rw [List.mem_singleton.mp hb]; exact Heap.get?_none_of_le (Nat.le_refl _)
    · obtain ⟨v', bs, hv, rv, hb⟩ := rdvs_get hr i ds[i] (by simp)
      have : v' = v := by
        have e1 : vs[i]? = some v := hP
        have e2 : vs[i]? = some v' := by simpa using hv
        rw [e1] at e2; exact (Option.some.inj e2).symm
      subst this
      exact ⟨ds[i], bs, by simp [hi], rv, fun a ha => n a (.tail _ (hb a ha))⟩⟩

/-- the frame of a comprehension -/
abbrev Fc.comp (Γ : Fc) (h₀ : Heap) (scope : Scope) (cl : List (Str × Addr)) (C : Addr) : Fc := { Γ with h₀ := h₀, env := compEnvC scope cl C Γ.env }

structure EvTests (Γ : Fc) (ρ : Loc) (μ : Mu) (ifs : List Expr) (b : Bool) : Prop where
  run : ∀ (s : Shared) (Q : Bool → Shared → Prop) (E : Value → Shared → Prop), St Γ ρ μ s → (∀ s', Grow s s' → Q b s') →
    wpAny Γ.M Γ.A (forIn ifs true fun c r => if r = true then do let ok ← isTrue c Γ.env (eval c Γ.env); pure (ForInStep.yield ok) else pure (ForInStep.yield r)) Q E s
theorem EvTests.nil {Γ ρ μ} : EvTests Γ ρ μ [] true := ⟨fun s Q E S k => by
  rw [List.forIn_nil]; exact wpAny_pure (k s (Grow.refl s))⟩
theorem EvTests.one {Γ : Fc} {ρ μ e b} (h : EvT Γ ρ μ e b) : EvTests Γ ρ μ [e] b := ⟨fun s Q E S k => by
  rw [List.forIn_cons]
  refine wpAny_bind (wpAny_bind (h.run s _ E S fun s1 g => wpAny_pure ?_))
  show wpAny _ _ (forIn [] _ _) _ _ _
  rw [List.forIn_nil]
  exact wpAny_pure (k s1 g)⟩

theorem keeps_of_grow {s s' : Shared} (g : Grow s s') : Keeps s s' := by
  obtain ⟨k, h, tk, rfl⟩ := g
  exact ⟨h, tk, rfl, k⟩

/-- what the comprehension's frame sees of the outer one -/
def CapOk (Γ : Fc) (ρ ρc : Loc) (scope : Scope) (cl : List (Str × Addr)) : Prop :=
  ∀ p ∈ ρc, ρ.lookup p.1 = some p.2 ∧ Γ.env.kindOf (Str.ofString p.1) = some .cell ∧ ((relabel scope Γ.env).names.lookup (Str.ofString p.1) = some .cell ∨ (relabel scope Γ.env).names.lookup (Str.ofString p.1) = some .free) ∧ (cl.lookup (Str.ofString p.1)).isSome = true

theorem mem_of_lookupS {β : Type} : ∀ {l : List (String × β)} {a : String} {b : β}, l.lookup a = some b → (a, b) ∈ l
  | (x, v) :: r, a, b, h => by
    rw [List.lookup_cons] at h
    by_cases q : a = x
    · subst q; rw [beq_self_eq_true] at h; cases h; exact .head _
    · rw [show (a == x) = false from beq_eq_false_iff_ne.mpr q] at h; exact .tail _ (mem_of_lookupS h)

theorem St.comp {Γ : Fc} {ρ ρc μ} {scope : Scope} {cl : List (Str × Addr)} {x : String} {C : Addr} {s₁ s₃ : Shared} {v : Value} {d : PyData} {as : List Addr} {m : Str → Option Value} (S : St Γ ρ μ s₁)
    (hkind : scope.kind = .function) (hx : scope.names.lookup (Str.ofString x) = some .local) (hcl : ∀ y c, cl.lookup y = some c → Γ.env.cells.lookup y = some c) (hcap : CapOk Γ ρ ρc scope cl)
    (hC : s₁.heap.objs.size ≤ C) (hn : s₃.heap.Ns C m) (hm : m (Str.ofString x) = some v) (hk : s₁.heap.StaysIn s₃.heap) (r : RdV Γ.F s₁.heap v d as) :
    St (Γ.comp s₁.heap scope cl C) ((x, .py d) :: ρc) [] s₃ := by
  obtain ⟨m₀, cm, W⟩ := S
  have G := W.gd
  have oldC : ∀ a, IsLst s₁.heap a → a ≠ C := fun a ⟨o, _, _, ho, _⟩ q => by
    rw [q] at ho; exact absurd (Heap.lt_size ho) (Nat.not_lt.mpr hC)
  refine ⟨m, cm, ⟨hkind, W.ok.glob, W.ok.blt, G, W.ok.dep, W.ok.un, W.ok.hnd, fun a b c e1 e2 => W.ok.apart a b c (hcl _ _ e1) (hcl _ _ e2)⟩, ⟨hn, hk, hC⟩, fun y c e => (W.cell y c (hcl _ _ e)).keeps hk, fun y d' e => ?_, (fun a ds' hm => nomatch hm), .nil, fun a hm => ?_⟩
  · rw [List.lookup_cons] at e
    by_cases q : y = x
    · subst q
      rw [beq_self_eq_true] at e
      cases e
      refine ⟨v, as, ?_, RdV.keeps hk r, fun a ha hz => ?_⟩
      · unfold Fc.var
        have : Env.kindOf (compEnvC scope cl C Γ.env) (Str.ofString y) = some .local := lookup_relabel_local hx
        rw [this]; exact hm
      · rcases List.mem_cons.mp hz with q | q
        · exact oldC a (rdv_kind r a ha) q
        · cases q
    · rw [show (y == x) = false from beq_eq_false_iff_ne.mpr q] at e
      obtain ⟨h1, h2, h3, h4⟩ := hcap _ (mem_of_lookupS e)
      obtain ⟨v', as', k1, k2, k3⟩ := W.loc y d' h1
      refine ⟨v', as', ?_, k2.keeps hk, fun a ha hz => ?_⟩
      · unfold Fc.var at k1 ⊢
        rw [h2] at k1
        obtain ⟨c, hc⟩ := Option.isSome_iff_exists.mp h4
        have hc' := hcl _ _ hc
        simp only [] at k1
        rw [hc'] at k1
        have hcm : cm (Str.ofString y) = some v' := k1
        rcases h3 with h3 | h3
        · have : Env.kindOf (compEnvC scope cl C Γ.env) (Str.ofString y) = some .cell := h3
          rw [this]
          show (if (cl.lookup (Str.ofString y)).isSome = true then cm (Str.ofString y) else Option.none) = some v'
          rw [hc]; exact hcm
        · have : Env.kindOf (compEnvC scope cl C Γ.env) (Str.ofString y) = some .free := h3
          rw [this]
          show (if (cl.lookup (Str.ofString y)).isSome = true then cm (Str.ofString y) else Option.none) = some v'
          rw [hc]; exact hcm
      · rcases List.mem_cons.mp hz with q | q
        · exact oldC a (k2.kind a ha) q
        · cases q
  · obtain ⟨o, e⟩ := W.forb a hm
    exact ⟨o, hk _ _ e⟩

/-- a value that stands by itself -/
def FlatV (y : Value) (e : PyData) : Prop := ∀ F h, RdV F h y e []
theorem flat_of {F : List Addr} {h : Heap} {y : Value} {e : PyData} {as : List Addr} (r : RdV F h y e as) (he : (∃ i, e = .int i) ∨ ∃ b, e = .bool b) : FlatV y e := fun F' h' => by
  rcases he with ⟨i, rfl⟩ | ⟨b, rfl⟩
  · cases r; exact .int _ _
  · cases r; exact .bool _

open Classical in
theorem comp_quiet {Γ : Fc} {ρ ρc μ} {ds : List PyData} {elt : Expr} {ifs : List Expr} {scope : Scope} {cl : List (Str × Addr)} {x : String} (pz : PyData → Bool) (fz : PyData → PyData)
    (hkind : scope.kind = .function) (hx : scope.names.lookup (Str.ofString x) = some .local) (hcl : ∀ y c, cl.lookup y = some c → Γ.env.cells.lookup y = some c) (hcap : CapOk Γ ρ ρc scope cl)
    (htest : ∀ d ∈ ds, ∀ C h₀, EvTests (Γ.comp h₀ scope cl C) ((x, .py d) :: ρc) [] ifs (pz d)) (helt : ∀ d ∈ ds, pz d = true → ∀ C h₀, Ev (Γ.comp h₀ scope cl C) ((x, .py d) :: ρc) [] elt (.py (fz d)))
    (hflat : ∀ d ∈ ds, pz d = true → (∃ i, fz d = .int i) ∨ ∃ b, fz d = .bool b)
    {s₁ s₂ : Shared} {wr : List Addr} {P : Nat → Value → Prop} (S : St Γ ρ μ s₁) (g : Grow s₁ s₂) (hsz : s₁.heap.objs.size ≤ s₂.heap.objs.size) (hwr : ∀ b ∈ wr, s₁.heap.get? b = Option.none)
    (hP : ∀ i v, P i v → ∃ d as, d ∈ ds ∧ RdV Γ.F s₁.heap v d as ∧ ∀ a ∈ as, a ∉ Γ.Z μ) :
    QuietOnC PG Γ.w Γ.A Γ.env scope cl (Str.ofString x) ifs elt wr P (fun v => decide (∃ d as, RdV Γ.F s₁.heap v d as ∧ pz d = true)) (fun v y => ∃ d as, RdV Γ.F s₁.heap v d as ∧ FlatV y (fz d)) s₂ := by
  have up : ∀ (s₃ : Shared), (∀ b o, b ∉ wr → s₂.heap.get? b = some o → s₃.heap.get? b = some o) → s₁.heap.StaysIn s₃.heap := fun s₃ hk b o e => hk b o (fun m => by rw [hwr b m] at e; cases e) (g.1 b o e)
  refine ⟨fun C i v s₃ m₃ E' hC hPi hn hm hk _ => ?_, fun C i v s₃ m₃ E' hC hPi hp hn hm hk _ => ?_⟩
  · obtain ⟨d, as, hd, hr, ha⟩ := hP i v hPi
    have S3 := S.comp hkind hx hcl hcap (Nat.le_trans hsz hC) hn hm (up s₃ hk) hr
    refine (htest d hd C s₁.heap).run s₃ _ E' S3 fun s' g' => ⟨?_, keeps_of_grow g'⟩
    cases hpd : pz d with
    | true => exact (decide_eq_true ⟨d, as, hr, hpd⟩).symm
    | false => exact (decide_eq_false fun ⟨d', as', hr', hp'⟩ => by rw [← rdv_fun hr hr', hpd] at hp'; cases hp').symm
  · obtain ⟨d, as, hd, hr, ha⟩ := hP i v hPi
    have S3 := S.comp hkind hx hcl hcap (Nat.le_trans hsz hC) hn hm (up s₃ hk) hr
    have hpd : pz d = true := by
      obtain ⟨d', as', hr', hp'⟩ := of_decide_eq_true hp
      rw [rdv_fun hr hr']; exact hp'
    exact (helt d hd hpd C s₁.heap).run s₃ _ E' S3 fun y as' s' g' r' _ => ⟨⟨d, as, hr, flat_of r' (hflat d hd hpd)⟩, keeps_of_grow g'⟩

theorem comp_items {F : List Addr} {h : Heap} (pz : PyData → Bool) (fz : PyData → PyData) : ∀ {ds : List PyData} {vs ys : List Value} {p : Value → Bool}, (∀ (i : Nat) v, vs[i]? = some v → ∃ d as, ds[i]? = some d ∧ RdV F h v d as) → vs.length = ds.length → (∀ v d as, RdV F h v d as → p v = pz d) →
    Paired (fun v y => ∃ d as, RdV F h v d as ∧ FlatV y (fz d)) (vs.filter p) ys → ∀ F' h', RdVs F' h' ys ((ds.filter pz).map fz) []
  | [], vs, ys, p, _, hl, _, hP, F', h' => by
    have : vs = [] := List.length_eq_zero_iff.mp hl
    subst this
    cases hP; exact .nil
  | d :: ds, [], ys, p, _, hl, _, _, _, _ => by simp at hl
  | d :: ds, v :: vs, ys, p, hv, hl, hp, hP, F', h' => by
    obtain ⟨d', as, hd, hr⟩ := hv 0 v rfl
    have : d = d' := by simpa using hd
    subst this
    have ht : ∀ (i : Nat) v, vs[i]? = some v → ∃ d as, ds[i]? = some d ∧ RdV F h v d as := fun i v e => by simpa using hv (i + 1) v (by simpa using e)
    have hl' : vs.length = ds.length := by simpa using hl
    rw [List.filter_cons, hp v d as hr] at hP
    rw [List.filter_cons]
    by_cases q : pz d = true
    · rw [if_pos q] at hP ⊢
      cases hP with
      | cons h1 h2 =>
        obtain ⟨d2, as2, hr2, hf⟩ := h1
        rw [← rdv_fun hr hr2] at hf
        exact RdVs.cons (as := []) (hf F' h') (comp_items pz fz ht hl' hp h2 F' h')
    · rw [if_neg q] at hP ⊢
      exact comp_items pz fz ht hl' hp hP F' h'

/-- a list that is known to the sign -/
structure EvL (Γ : Fc) (ρ : Loc) (μ : Mu) (e : Expr) (ds : List PyData) : Prop where
  run : ∀ (s : Shared) (Q : Value → Shared → Prop) (E : Value → Shared → Prop), St Γ ρ μ s →
    (∀ (a : Addr) (ys : List Value) (n : Nat) (s' : Shared), Grow s s' → s.heap.get? a = Option.none → s'.heap.get? a = some (listOf ys.toArray n) → (∀ F h, RdVs F h ys ds []) → Q (.ref a) s') → wpAny Γ.M Γ.A (eval e Γ.env) Q E s
theorem Ev.ofL {Γ ρ μ e ds} (h : EvL Γ ρ μ e ds) : Ev Γ ρ μ e (.lst ds) := ⟨fun s Q E S k => by
  refine h.run s Q E S fun a ys n s' g hn hg hr => k _ [a] s' g (RdV.list hg rfl rfl (hr _ _)) fun b hb => ?_
  rw [List.mem_singleton.mp hb]
  exact S.fresh (as := [a]) (fun c hc => by rw [List.mem_singleton.mp hc]; exact hn) a (.head _)⟩

open Classical in
theorem EvL.comp {Γ : Fc} {ρ ρc μ} {ds : List PyData} {elt iter : Expr} {px pos : Pos} {ifs : List Expr} {scope : Scope} {cl : List (Str × Addr)} {x : String} (pz : PyData → Bool) (fz : PyData → PyData)
    (hsrc : SrcJ Γ ρ μ iter ds) (hds : ds.length ≤ 1000)
    (hclos : closureFor scope Γ.env = pure cl) (hkind : scope.kind = .function) (hcell : ∀ y ∈ scope.names, y.2 ≠ .cell) (hnames : ∀ y ∈ scope.names, y.2 = .local → scope.names.lookup y.1 = some .local)
    (hx : scope.names.lookup (Str.ofString x) = some .local) (hcl : ∀ y c, cl.lookup y = some c → Γ.env.cells.lookup y = some c) (hcap : CapOk Γ ρ ρc scope cl)
    (htest : ∀ d ∈ ds, ∀ C h₀, EvTests (Γ.comp h₀ scope cl C) ((x, .py d) :: ρc) [] ifs (pz d)) (helt : ∀ d ∈ ds, pz d = true → ∀ C h₀, Ev (Γ.comp h₀ scope cl C) ((x, .py d) :: ρc) [] elt (.py (fz d)))
    (hflat : ∀ d ∈ ds, pz d = true → (∃ i, fz d = .int i) ∨ ∃ b, fz d = .bool b)
    (hs : ∀ x, foldedSetIterable iter Γ.env x = pure x := by intro _; rfl) :
    EvL Γ ρ μ (.ListComp elt [⟨.Name (Str.ofString x) px, iter, ifs, 0⟩] scope pos) ((ds.filter pz).map fz) := ⟨fun s Q E S k => by
  let s1p : Shared → Value → Bool := fun s₁ v => decide (∃ d as, RdV Γ.F s₁.heap v d as ∧ pz d = true)
  rw [eval_ListComp]
  refine wpAny_comprehension_free (use := Option.none) rfl hs hclos hkind hnames ?_
  refine hsrc.run s _ E S fun s₁ s₂ I fp wr P St₀ g1 g2 hsz W hst hfp hwr hP => ?_
  have S1 := S.grow g1
  have Wb : Walks PG Γ.w Γ.A I fp wr ds.length (fun i v => i < ds.length ∧ P i v) St₀ := W.bound
  refine comp_block_walkC (RR := fun acc C => compPost Γ.M Γ.A E Option.none Q acc C) Wb (by rw [sizeLine_eq]; omega) (s1p s₁) (fun v y => ∃ d as, RdV Γ.F s₁.heap v d as ∧ FlatV y (fz d)) hcell hkind hx hst hfp
    (comp_quiet pz fz hkind hx hcl hcap htest helt hflat S1 g2 hsz hwr fun i v hi => ?_) ?_
  · obtain ⟨d, as, e, hr, ha⟩ := hP i v hi.2 hi.1
    exact ⟨d, as, List.mem_of_getElem? e, hr, ha⟩
  · intro D C h' tk m' ys vs hD hC hDC hn hl hpl hlen hPv hF hk
    have st1 : s₁.heap.StaysIn h' := fun b o e => hk b o (fun m => by rw [hwr b m] at e; cases e) (g2.1 b o e)
    refine ⟨m', hn, fun h'' hs'' => ?_⟩
    have st2 : s₁.heap.StaysIn h'' := fun b o e => hs''.extBut b o (by rintro rfl; rw [g2.1 _ _ e] at hC; cases hC) (st1 b o e)
    obtain ⟨n, hpl'⟩ := hpl.extBut hs''.extBut hDC
    have hr := comp_items (F := Γ.F) (h := s₁.heap) pz fz (ds := ds) (vs := vs) (ys := ys.toList) (p := s1p s₁) (fun i v e => by
      obtain ⟨d, as, e', hr, _⟩ := hP i v (hPv i v e).2 (hPv i v e).1
      exact ⟨d, as, e', hr⟩) hlen (fun v d as hr => by
        cases hpd : pz d with
        | true => exact decide_eq_true ⟨d, as, hr, hpd⟩
        | false => exact decide_eq_false fun ⟨d', as', hr', hp'⟩ => by rw [← rdv_fun hr hr', hpd] at hp'; cases hp') hF
    refine k D ys.toList n { s₂ with heap := h'', toks := tk } ?_ ?_ (by rw [Array.toArray_toList]; exact hpl') hr
    · have kk : s.heap.StaysIn h'' := fun b o e => st2 b o (g1.1 b o e)
      obtain ⟨_, ha, ta, rfl⟩ := g1
      obtain ⟨_, hb, tb, rfl⟩ := g2
      exact ⟨kk, h'', tk, rfl⟩
    · cases q : s.heap.get? D with
      | none => rfl
      | some o => rw [g2.1 _ _ (g1.1 _ _ q)] at hD; cases hD⟩

/-! ### MT -/

theorem noPy {x y : Int} (h1 : 0 < y) (h2 : y < 1073741824) : Builtin.divisionGoesByPylong x y = false := PyProof.noPylong_small (by omega)
local macro_rules | `(tactic| walk_at "mv_ar") => `(tactic| first | decide | assumption | omega)
local macro_rules | `(tactic| walk_at "mv_ev") => `(tactic| first
  | exact Ev.int
  | exact Ev.str
  | exact Ev.bool
  | exact Ev.none
  | exact Ev.name (by rfl)
  | (refine' Ev.bin ?h1 ?h2 ?h3; (case h1 => walk_at "mv_ev"); (case h2 => walk_at "mv_ev"); (case h3 => walk_at "mv_bin")))
local macro_rules | `(tactic| walk_at "mv_bin") => `(tactic| first
  | exact BinJ.add
  | exact BinJ.sub
  | exact BinJ.mod (by walk_at "mv_ar")
  | exact BinJ.fdiv (by walk_at "mv_ar") (by first | exact noPy (by walk_at "mv_ar") (by walk_at "mv_ar") | rfl | assumption ))

/-! ### MN -/

theorem BinJ.emod {a b : Int} (h : 0 < b) : BinJ .Mod (.int a) (.int b) (.int (a % b)) := (BinJ.mod (by omega)).eq (by rw [Int.fmod_eq_emod_of_nonneg _ (Int.le_of_lt h)])
theorem BinJ.ediv {a b : Int} (h : 0 < b) (h2 : b < 1073741824) : BinJ .FloorDiv (.int a) (.int b) (.int (a / b)) := (BinJ.fdiv (by omega) (noPy h h2)).eq (by rw [Int.fdiv_eq_ediv_of_nonneg _ (Int.le_of_lt h)])
theorem BinJ.edivP {a b : Int} (h : 0 < b) (h2 : Builtin.divisionGoesByPylong a b = false) : BinJ .FloorDiv (.int a) (.int b) (.int (a / b)) := (BinJ.fdiv (by omega) h2).eq (by rw [Int.fdiv_eq_ediv_of_nonneg _ (Int.le_of_lt h)])
theorem BinJ.rsh15 {a : Int} : BinJ .RShift (.int a) (.int 15) (.int (a / 32768)) := (BinJ.rsh (by decide)).eq (by rw [Int.fdiv_eq_ediv_of_nonneg _ (by decide)]; rfl)
theorem BinJ.rsh14 {a : Int} : BinJ .RShift (.int a) (.int 14) (.int (a / 16384)) := (BinJ.rsh (by decide)).eq (by rw [Int.fdiv_eq_ediv_of_nonneg _ (by decide)]; rfl)
theorem BinJ.and1 {a : Int} : BinJ .BitAnd (.int a) (.int 1) (.int (a % 2)) := BinJ.and.eq (congrArg D.int (kbt_mask a 1))
theorem BinJ.and255 {a : Int} : BinJ .BitAnd (.int a) (.int 255) (.int (a % 256)) := BinJ.and.eq (congrArg D.int (kbt_mask a 8))
theorem BinJ.and16383 {a : Int} : BinJ .BitAnd (.int a) (.int 16383) (.int (a % 16384)) := BinJ.and.eq (congrArg D.int (kbt_mask a 14))
theorem BinJ.and32768 {a : Int} : BinJ .BitAnd (.int a) (.int 32768) (.int (a / 32768 % 2 * 32768)) := BinJ.and.eq (congrArg D.int (kbt_bit a 15))
theorem BinJ.and16384 {a : Int} : BinJ .BitAnd (.int a) (.int 16384) (.int (a / 16384 % 2 * 16384)) := BinJ.and.eq (congrArg D.int (kbt_bit a 14))
theorem BinJ.mul2 {a b : Int} (h : IntMulOk a b) : BinJ .Mult (.int a) (.int b) (.int (a * b)) := BinJ.mul h
theorem cle_b {id} : Callee (.builtin id) := .inl ⟨id, rfl⟩
theorem cle_t {id} : Callee (.type id) := .inr (.inl ⟨id, rfl⟩)
theorem CallJ.edivmod {n : Nat} {a b : Int} (hb : 0 < b) (hp : Builtin.divisionGoesByPylong a b = false) : CallJ n (.builtin "divmod") [.int a, .int b] (.tup [.int (a / b), .int (a % b)]) :=
  (CallJ.divmod (by omega) hp).eq (by rw [Int.fmod_eq_emod_of_nonneg _ (Int.le_of_lt hb), Int.fdiv_eq_ediv_of_nonneg _ (Int.le_of_lt hb)])
theorem glo_adjust_cell_addr_biff8 : Glo "adjust_cell_addr_biff8" (.ref 50) := .inl fun P => by rfl
theorem glo_adjust_cell_addr_biff_le7 : Glo "adjust_cell_addr_biff_le7" (.ref 58) := .inl fun P => by rfl
theorem glo_get_cell_addr : Glo "get_cell_addr" (.ref 66) := .inl fun P => by rfl
theorem glo_get_cell_range_addr : Glo "get_cell_range_addr" (.ref 74) := .inl fun P => by rfl
theorem glo_rownamerel : Glo "rownamerel" (.ref 82) := .inl fun P => by rfl
theorem glo_colnamerel : Glo "colnamerel" (.ref 90) := .inl fun P => by rfl
theorem glo_cellname : Glo "cellname" (.ref 97) := .inl fun P => by rfl
theorem glo_cellnameabs : Glo "cellnameabs" (.ref 105) := .inl fun P => by rfl
theorem glo_cellnamerel : Glo "cellnamerel" (.ref 113) := .inl fun P => by rfl
theorem glo_colname : Glo "colname" (.ref 158) := .inl fun P => by rfl
theorem glo_colname_formula : Glo "colname_formula" (.ref 120) := .inl fun P => by rfl
theorem glo_rangename2d : Glo "rangename2d" (.ref 128) := .inl fun P => by rfl
theorem glo_rangename2drel : Glo "rangename2drel" (.ref 136) := .inl fun P => by rfl
theorem glo_UNICODE_LITERAL : Glo "UNICODE_LITERAL" (.ref 143) := .inl fun P => by rfl
theorem glo_expand_cell_address : Glo "expand_cell_address" (.ref 150) := .inl fun P => by rfl
theorem glo_colname_book : Glo "colname_book" (.ref 158) := .inl fun P => by rfl
theorem glo_display_cell_address : Glo "display_cell_address" (.ref 165) := .inl fun P => by rfl
theorem glo__law_word : Glo "_law_word" (.ref 172) := .inl fun P => by rfl
theorem glo__law_digits : Glo "_law_digits" (.ref 179) := .inl fun P => by rfl
theorem glo__law_letters : Glo "_law_letters" (.ref 186) := .inl fun P => by rfl
theorem glo__law_plain : Glo "_law_plain" (.ref 193) := .inl fun P => by rfl
theorem glo__law_part : Glo "_law_part" (.ref 200) := .inl fun P => by rfl
theorem glo__law_round : Glo "_law_round" (.ref 207) := .inl fun P => by rfl
theorem glo__law_near : Glo "_law_near" (.ref 214) := .inl fun P => by rfl
theorem glo__law_shown : Glo "_law_shown" (.ref 221) := .inl fun P => by rfl
theorem glo__law_names : Glo "_law_names" (.ref 228) := .inl fun P => by rfl
theorem glo_unpack : Glo "unpack" (.builtin "_struct.unpack") := .inl fun P => by rfl
theorem glo_max : Glo "max" (.builtin "max") := .inr ⟨fun P => by rfl, by rfl, by decide⟩
theorem glo_min : Glo "min" (.builtin "min") := .inr ⟨fun P => by rfl, by rfl, by decide⟩
theorem glo_len : Glo "len" (.builtin "len") := .inr ⟨fun P => by rfl, by rfl, by decide⟩
theorem glo_abs : Glo "abs" (.builtin "abs") := .inr ⟨fun P => by rfl, by rfl, by decide⟩
theorem glo_ord : Glo "ord" (.builtin "ord") := .inr ⟨fun P => by rfl, by rfl, by decide⟩
theorem glo_sum : Glo "sum" (.builtin "sum") := .inr ⟨fun P => by rfl, by rfl, by decide⟩
theorem glo_divmod : Glo "divmod" (.builtin "divmod") := .inr ⟨fun P => by rfl, by rfl, by decide⟩
theorem glo_str : Glo "str" (.type "str") := .inr ⟨fun P => by rfl, by rfl, by decide⟩
theorem glo_bytes : Glo "bytes" (.type "bytes") := .inr ⟨fun P => by rfl, by rfl, by decide⟩
theorem glo_zip : Glo "zip" (.type "zip") := .inr ⟨fun P => by rfl, by rfl, by decide⟩
theorem glo_range : Glo "range" (.type "range") := .inr ⟨fun P => by rfl, by rfl, by decide⟩
theorem cle_50 : Callee (.ref 50) := .inr (.inr ⟨_, _, _, rfl, fun P => rfl, rfl⟩)
theorem cle_58 : Callee (.ref 58) := .inr (.inr ⟨_, _, _, rfl, fun P => rfl, rfl⟩)
theorem cle_66 : Callee (.ref 66) := .inr (.inr ⟨_, _, _, rfl, fun P => rfl, rfl⟩)
theorem cle_74 : Callee (.ref 74) := .inr (.inr ⟨_, _, _, rfl, fun P => rfl, rfl⟩)
theorem cle_82 : Callee (.ref 82) := .inr (.inr ⟨_, _, _, rfl, fun P => rfl, rfl⟩)
theorem cle_90 : Callee (.ref 90) := .inr (.inr ⟨_, _, _, rfl, fun P => rfl, rfl⟩)
theorem cle_97 : Callee (.ref 97) := .inr (.inr ⟨_, _, _, rfl, fun P => rfl, rfl⟩)
theorem cle_105 : Callee (.ref 105) := .inr (.inr ⟨_, _, _, rfl, fun P => rfl, rfl⟩)
theorem cle_113 : Callee (.ref 113) := .inr (.inr ⟨_, _, _, rfl, fun P => rfl, rfl⟩)
theorem cle_158 : Callee (.ref 158) := .inr (.inr ⟨_, _, _, rfl, fun P => rfl, rfl⟩)
theorem cle_120 : Callee (.ref 120) := .inr (.inr ⟨_, _, _, rfl, fun P => rfl, rfl⟩)
theorem cle_128 : Callee (.ref 128) := .inr (.inr ⟨_, _, _, rfl, fun P => rfl, rfl⟩)
theorem cle_136 : Callee (.ref 136) := .inr (.inr ⟨_, _, _, rfl, fun P => rfl, rfl⟩)
theorem cle_143 : Callee (.ref 143) := .inr (.inr ⟨_, _, _, rfl, fun P => rfl, rfl⟩)
theorem cle_150 : Callee (.ref 150) := .inr (.inr ⟨_, _, _, rfl, fun P => rfl, rfl⟩)
theorem cle_165 : Callee (.ref 165) := .inr (.inr ⟨_, _, _, rfl, fun P => rfl, rfl⟩)
theorem cle_172 : Callee (.ref 172) := .inr (.inr ⟨_, _, _, rfl, fun P => rfl, rfl⟩)
theorem cle_179 : Callee (.ref 179) := .inr (.inr ⟨_, _, _, rfl, fun P => rfl, rfl⟩)
theorem cle_186 : Callee (.ref 186) := .inr (.inr ⟨_, _, _, rfl, fun P => rfl, rfl⟩)
theorem cle_193 : Callee (.ref 193) := .inr (.inr ⟨_, _, _, rfl, fun P => rfl, rfl⟩)
theorem cle_200 : Callee (.ref 200) := .inr (.inr ⟨_, _, _, rfl, fun P => rfl, rfl⟩)
theorem cle_207 : Callee (.ref 207) := .inr (.inr ⟨_, _, _, rfl, fun P => rfl, rfl⟩)
theorem cle_214 : Callee (.ref 214) := .inr (.inr ⟨_, _, _, rfl, fun P => rfl, rfl⟩)
theorem cle_221 : Callee (.ref 221) := .inr (.inr ⟨_, _, _, rfl, fun P => rfl, rfl⟩)
theorem cle_228 : Callee (.ref 228) := .inr (.inr ⟨_, _, _, rfl, fun P => rfl, rfl⟩)

local macro_rules | `(tactic| walk_at "mv_glob") => `(tactic| first
  | ((with_reducible refine Ev.glob (x := "adjust_cell_addr_biff8") glo_adjust_cell_addr_biff8 ?_ ?_) <;> first | rfl | decide)
  | ((with_reducible refine Ev.glob (x := "adjust_cell_addr_biff_le7") glo_adjust_cell_addr_biff_le7 ?_ ?_) <;> first | rfl | decide)
  | ((with_reducible refine Ev.glob (x := "get_cell_addr") glo_get_cell_addr ?_ ?_) <;> first | rfl | decide)
  | ((with_reducible refine Ev.glob (x := "get_cell_range_addr") glo_get_cell_range_addr ?_ ?_) <;> first | rfl | decide)
  | ((with_reducible refine Ev.glob (x := "rownamerel") glo_rownamerel ?_ ?_) <;> first | rfl | decide)
  | ((with_reducible refine Ev.glob (x := "colnamerel") glo_colnamerel ?_ ?_) <;> first | rfl | decide)
  | ((with_reducible refine Ev.glob (x := "cellname") glo_cellname ?_ ?_) <;> first | rfl | decide)
  | ((with_reducible refine Ev.glob (x := "cellnameabs") glo_cellnameabs ?_ ?_) <;> first | rfl | decide)
  | ((with_reducible refine Ev.glob (x := "cellnamerel") glo_cellnamerel ?_ ?_) <;> first | rfl | decide)
  | ((with_reducible refine Ev.glob (x := "colname") glo_colname ?_ ?_) <;> first | rfl | decide)
  | ((with_reducible refine Ev.glob (x := "colname_formula") glo_colname_formula ?_ ?_) <;> first | rfl | decide)
  | ((with_reducible refine Ev.glob (x := "rangename2d") glo_rangename2d ?_ ?_) <;> first | rfl | decide)
  | ((with_reducible refine Ev.glob (x := "rangename2drel") glo_rangename2drel ?_ ?_) <;> first | rfl | decide)
  | ((with_reducible refine Ev.glob (x := "UNICODE_LITERAL") glo_UNICODE_LITERAL ?_ ?_) <;> first | rfl | decide)
  | ((with_reducible refine Ev.glob (x := "expand_cell_address") glo_expand_cell_address ?_ ?_) <;> first | rfl | decide)
  | ((with_reducible refine Ev.glob (x := "colname_book") glo_colname_book ?_ ?_) <;> first | rfl | decide)
  | ((with_reducible refine Ev.glob (x := "display_cell_address") glo_display_cell_address ?_ ?_) <;> first | rfl | decide)
  | ((with_reducible refine Ev.glob (x := "_law_word") glo__law_word ?_ ?_) <;> first | rfl | decide)
  | ((with_reducible refine Ev.glob (x := "_law_digits") glo__law_digits ?_ ?_) <;> first | rfl | decide)
  | ((with_reducible refine Ev.glob (x := "_law_letters") glo__law_letters ?_ ?_) <;> first | rfl | decide)
  | ((with_reducible refine Ev.glob (x := "_law_plain") glo__law_plain ?_ ?_) <;> first | rfl | decide)
  | ((with_reducible refine Ev.glob (x := "_law_part") glo__law_part ?_ ?_) <;> first | rfl | decide)
  | ((with_reducible refine Ev.glob (x := "_law_round") glo__law_round ?_ ?_) <;> first | rfl | decide)
  | ((with_reducible refine Ev.glob (x := "_law_near") glo__law_near ?_ ?_) <;> first | rfl | decide)
  | ((with_reducible refine Ev.glob (x := "_law_shown") glo__law_shown ?_ ?_) <;> first | rfl | decide)
  | ((with_reducible refine Ev.glob (x := "_law_names") glo__law_names ?_ ?_) <;> first | rfl | decide)
  | ((with_reducible refine Ev.glob (x := "unpack") glo_unpack ?_ ?_) <;> first | rfl | decide)
  | ((with_reducible refine Ev.glob (x := "max") glo_max ?_ ?_) <;> first | rfl | decide)
  | ((with_reducible refine Ev.glob (x := "min") glo_min ?_ ?_) <;> first | rfl | decide)
  | ((with_reducible refine Ev.glob (x := "len") glo_len ?_ ?_) <;> first | rfl | decide)
  | ((with_reducible refine Ev.glob (x := "abs") glo_abs ?_ ?_) <;> first | rfl | decide)
  | ((with_reducible refine Ev.glob (x := "ord") glo_ord ?_ ?_) <;> first | rfl | decide)
  | ((with_reducible refine Ev.glob (x := "sum") glo_sum ?_ ?_) <;> first | rfl | decide)
  | ((with_reducible refine Ev.glob (x := "divmod") glo_divmod ?_ ?_) <;> first | rfl | decide)
  | ((with_reducible refine Ev.glob (x := "str") glo_str ?_ ?_) <;> first | rfl | decide)
  | ((with_reducible refine Ev.glob (x := "bytes") glo_bytes ?_ ?_) <;> first | rfl | decide)
  | ((with_reducible refine Ev.glob (x := "zip") glo_zip ?_ ?_) <;> first | rfl | decide)
  | ((with_reducible refine Ev.glob (x := "range") glo_range ?_ ?_) <;> first | rfl | decide))
local macro_rules | `(tactic| walk_at "mv_callee") => `(tactic| first
  | exact cle_b
  | exact cle_t
  | exact cle_50
  | exact cle_58
  | exact cle_66
  | exact cle_74
  | exact cle_82
  | exact cle_90
  | exact cle_97
  | exact cle_105
  | exact cle_113
  | exact cle_120
  | exact cle_128
  | exact cle_136
  | exact cle_143
  | exact cle_150
  | exact cle_158
  | exact cle_165
  | exact cle_172
  | exact cle_179
  | exact cle_186
  | exact cle_193
  | exact cle_200
  | exact cle_207
  | exact cle_214
  | exact cle_221
  | exact cle_228)
local macro_rules | `(tactic| walk_at "mv_args") => `(tactic| first
  | exact EvArgs.nil
  | (refine' EvArgs.cons (EvA.of ?h1) ?h2; (case h1 => walk_at "mv_ev"); (case h2 => walk_at "mv_args")))
local macro_rules | `(tactic| walk_at "mv_all") => `(tactic| first
  | exact EvAll.nil
  | (refine' EvAll.cons ?h1 ?h2; (case h1 => walk_at "mv_ev"); (case h2 => walk_at "mv_all")))
local macro_rules | `(tactic| walk_at "mv_call") => `(tactic| first
  | exact CallJ.len (by walk_at "mv_ar")
  | exact CallJ.max
  | exact CallJ.min
  | exact CallJ.abs
  | exact CallJ.ord
  | exact CallJ.str (by walk_at "mv_ar")
  | exact CallJ.edivmod (by walk_at "mv_ar") (by first | exact noPy (by walk_at "mv_ar") (by walk_at "mv_ar") | rfl | assumption ))
local macro_rules | `(tactic| walk_at "mv_cmp") => `(tactic| first
  | exact CmpJ.ieq
  | exact CmpJ.ine
  | exact CmpJ.lt
  | exact CmpJ.le
  | exact CmpJ.gt
  | exact CmpJ.ge
  | exact CmpJ.seq
  | exact CmpJ.sne
  | exact CmpJ.isNone
  | exact CmpJ.dne)
local macro_rules | `(tactic| walk_at "mv_tru") => `(tactic| first
  | exact TruJ.int
  | exact TruJ.bool
  | exact TruJ.none)
local macro_rules | `(tactic| walk_at "mv_sub") => `(tactic| first
  | exact SubJ.tup (by walk_at "mv_ar") (by rfl)
  | exact SubJ.lst (by walk_at "mv_ar") (by rfl))
local macro_rules | `(tactic| walk_at "mv_bin") => `(tactic| first
  | exact BinJ.add
  | exact BinJ.sub
  | exact BinJ.emod (by walk_at "mv_ar")
  | exact BinJ.ediv (by walk_at "mv_ar") (by walk_at "mv_ar")
  | exact BinJ.rsh15
  | exact BinJ.rsh14
  | exact BinJ.and1
  | exact BinJ.and255
  | exact BinJ.and16383
  | exact BinJ.and32768
  | exact BinJ.and16384
  | exact BinJ.adds (by walk_at "mv_ar"))
local macro_rules | `(tactic| walk_at "mv_ev") => `(tactic| first
  | exact Ev.int
  | exact Ev.str
  | exact Ev.bool
  | exact Ev.none
  | exact Ev.name (by rfl)
  | (refine' Ev.bin ?h1 ?h2 ?h3; (case h1 => walk_at "mv_ev"); (case h2 => walk_at "mv_ev"); (case h3 => walk_at "mv_bin"))
  | (refine' Ev.neg ?h1; (case h1 => walk_at "mv_ev"))
  | (refine' Ev.cmp ?h1 ?h2 ?h3; (case h1 => walk_at "mv_ev"); (case h2 => walk_at "mv_ev"); (case h3 => walk_at "mv_cmp"))
  | (refine' Ev.not ?h1 ?h2; (case h1 => walk_at "mv_ev"); (case h2 => walk_at "mv_tru"))
  | (refine' Ev.tuple ?h1 ?h2; (case h1 => walk_at "mv_all"); (case h2 => exact Nat.le_of_ble_eq_true rfl))
  | (refine' Ev.list ?h1 ?h2; (case h1 => walk_at "mv_all"); (case h2 => exact Nat.le_of_ble_eq_true rfl))
  | (refine' Ev.sub ?h1 ?h2 ?h3; (case h1 => walk_at "mv_ev"); (case h2 => walk_at "mv_ev"); (case h3 => walk_at "mv_sub"))
  | (refine' Ev.callG ?h1 ?h2 ?h3 ?h4 ?h5; (case h1 => walk_at "mv_glob"); (case h2 => walk_at "mv_callee"); (case h3 => walk_at "mv_args"); (case h4 => walk_at "mv_call"); (case h5 => exact List.cons_ne_nil _ _)))
local macro_rules | `(tactic| walk_at "mv_t") => `(tactic| first
  | (refine' EvT.boolop (op := .And) ?h1; (case h1 => walk_at "mv_and"))
  | (refine' EvT.boolop (op := .Or) ?h1; (case h1 => walk_at "mv_or"))
  | (refine' EvT.not ?h1; (case h1 => walk_at "mv_t"))
  | (refine' EvT.cmp ?h1 ?h2 ?h3; (case h1 => walk_at "mv_ev"); (case h2 => walk_at "mv_ev"); (case h3 => walk_at "mv_cmp"))
  | (refine' EvT.of_value ?h1 ?h2; (case h1 => walk_at "mv_ev"); (case h2 => walk_at "mv_tru")))
local macro_rules | `(tactic| walk_at "mv_and") => `(tactic| first
  | exact EvAnd.and_nil
  | (refine' EvAnd.and_cons ?h1 (fun _ => ?h2); (case h1 => walk_at "mv_t"); (case h2 => walk_at "mv_and")))
local macro_rules | `(tactic| walk_at "mv_or") => `(tactic| first
  | exact EvAnd.or_nil
  | (refine' EvAnd.or_cons ?h1 (fun _ => ?h2); (case h1 => walk_at "mv_t"); (case h2 => walk_at "mv_or")))

/-! ### MO -/

theorem plains_nil : ∀ d ∈ ([] : List PyData), Plain d := fun _ x => nomatch x
theorem plains_cons {d : PyData} {l : List PyData} (h : Plain d) (h2 : ∀ d ∈ l, Plain d) : ∀ e ∈ d :: l, Plain e := fun e m => by
  rcases List.mem_cons.mp m with rfl | m
  · exact h
  · exact h2 e m
local macro_rules | `(tactic| walk_at "mv_plain") => `(tactic| first
  | exact .int _ | exact .str _ | exact .bool _ | exact .none
  | exact plains_nil
  | (refine' plains_cons ?h1 ?h2; (case h1 => walk_at "mv_plain"); (case h2 => walk_at "mv_plain"))
  | (refine' Plain.tup ?h1; (case h1 => walk_at "mv_plain")))
local macro_rules | `(tactic| walk_at "mv_unp") => `(tactic| first
  | exact AsgAll.nil
  | (refine' AsgAll.cons (Asg.name (.inl rfl)) (fun _ => rfl) ?h1; (case h1 => walk_at "mv_unp")))
local macro_rules | `(tactic| walk_at "mv_st1") => `(tactic| first
  | (refine' Ex1.assign ?h1 (.inl rfl) ?h2; (case h1 => walk_at "mv_ev"))
  | (refine' Ex1.aug (by rfl) ?h1 ?h4 (.inl rfl) ?h2; (case h1 => walk_at "mv_ev"); (case h4 => first | exact IopJ.add | exact IopJ.sub))
  | (refine' Ex1.unpack ?h1 ?h3 ?h2; (case h1 => walk_at "mv_ev"); (case h3 => walk_at "mv_unp"))
  | (refine' Ex1.ite ?h1 (fun _ => ?h2) (fun _ => ?h3); (case h1 => walk_at "mv_t"))
  | (refine' Ex1.ret ?h1 ?h2 ?h3; (case h1 => walk_at "mv_ev"); (case h3 => walk_at "mv_plain")))
local macro_rules | `(tactic| walk_at "mv_st") => `(tactic| first
  | (refine' Ex.cons ?_; walk_at "mv_st1")
  | refine' Ex.nil ?_)
local macro_rules | `(tactic| walk_at "mv_norm") => `(tactic| try simp only [Bool.and_true, Bool.true_and, Bool.and_false, Bool.false_and, Bool.or_true, Bool.or_false, Bool.false_or, Bool.true_or, Bool.and_eq_true, Bool.or_eq_true, decide_eq_true_eq, Bool.and_eq_false_iff, Bool.or_eq_false_iff, decide_eq_false_iff_not, Bool.not_eq_true', Bool.not_eq_false', Bool.false_eq_true, Bool.true_eq_false, reduceCtorEq, ne_eq, Decidable.not_not] at *)
local macro_rules | `(tactic| walk_at "mv_leaf") => `(tactic| (walk_at "mv_norm" <;> first
  | contradiction
  | omega
  | ((try simp only [D.py.injEq, PyData.tuple.injEq, List.cons.injEq, PyData.int.injEq, PyData.bool.injEq, PyData.str.injEq, and_true, true_and]) <;> (repeat' apply And.intro) <;> (first | rfl | omega | ((repeat' split) <;> (first | rfl | omega | (walk_at "mv_norm" <;> (first | omega))))))))

/-! ## the text's defs -/
section
set_option maxHeartbeats 1000000
def adjT (r c : Int) (rr cr : Int) (R : Int) : D := .tup [.int (if rr ≠ 0 ∧ R ≤ 2 * r then r - R else r), .int (if cr ≠ 0 ∧ 128 ≤ c then c - 256 else c), .int rr, .int cr]
def adjF (r c : Int) (rr cr : Int) (b d : Int) : D := .tup [.int (if rr ≠ 0 then r - b else r), .int (if cr ≠ 0 then c - d else c), .int rr, .int cr]
theorem adj8T (r c b d : Int) : CallJ 1 (.ref 50) [.int r, .int c, .bool true, .int b, .int d] (adjT r (c % 256) (c / 32768 % 2) (c / 16384 % 2) 65536) := by
  refine CallJ.fn (names := ["rowval", "colval", "reldelta", "browx", "bcolx"]) (dvs := []) (dds := []) (fun P => rfl) rfl (fun P => rfl) ?_ (fun _ _ => .nil) (by decide) (by decide) (by decide) ?_
  · intro w s vs hl hK
    match vs, hl with
    | [a, b, c, d, e], _ => exact binds_K (K := hd.heap_39 w.params) hK rfl (T := 43) rfl rfl rfl rfl
  · intro w mg mb A h₀ L F
    unfold adjT
    repeat' walk_at "mv_st"
    all_goals walk_at "mv_leaf"
theorem adj8F (r c b d : Int) : CallJ 1 (.ref 50) [.int r, .int c, .bool false, .int b, .int d] (adjF r (c % 256) (c / 32768 % 2) (c / 16384 % 2) b d) := by
  refine CallJ.fn (names := ["rowval", "colval", "reldelta", "browx", "bcolx"]) (dvs := []) (dds := []) (fun P => rfl) rfl (fun P => rfl) ?_ (fun _ _ => .nil) (by decide) (by decide) (by decide) ?_
  · intro w s vs hl hK
    match vs, hl with
    | [a, b, c, d, e], _ => exact binds_K (K := hd.heap_39 w.params) hK rfl (T := 43) rfl rfl rfl rfl
  · intro w mg mb A h₀ L F
    unfold adjF
    repeat' walk_at "mv_st"
    all_goals walk_at "mv_leaf"
end

/-! ### MP -/
section
set_option maxHeartbeats 1000000
theorem adj7T (r c b d : Int) : CallJ 1 (.ref 58) [.int r, .int c, .bool true, .int b, .int d] (adjT (r % 16384) c (r / 32768 % 2) (r / 16384 % 2) 16384) := by
  refine CallJ.fn (names := ["rowval", "colval", "reldelta", "browx", "bcolx"]) (dvs := []) (dds := []) (fun P => rfl) rfl (fun P => rfl) ?_ (fun _ _ => .nil) (by decide) (by decide) (by decide) ?_
  · intro w s vs hl hK
    match vs, hl with
    | [a, b, c, d, e], _ => exact binds_K (K := hd.heap_39 w.params) hK rfl (T := 51) rfl rfl rfl rfl
  · intro w mg mb A h₀ L F
    unfold adjT
    repeat' walk_at "mv_st"
    all_goals walk_at "mv_leaf"
theorem adj7F (r c b d : Int) : CallJ 1 (.ref 58) [.int r, .int c, .bool false, .int b, .int d] (adjF (r % 16384) c (r / 32768 % 2) (r / 16384 % 2) b d) := by
  refine CallJ.fn (names := ["rowval", "colval", "reldelta", "browx", "bcolx"]) (dvs := []) (dds := []) (fun P => rfl) rfl (fun P => rfl) ?_ (fun _ _ => .nil) (by decide) (by decide) (by decide) ?_
  · intro w s vs hl hK
    match vs, hl with
    | [a, b, c, d, e], _ => exact binds_K (K := hd.heap_39 w.params) hK rfl (T := 51) rfl rfl rfl rfl
  · intro w mg mb A h₀ L F
    unfold adjF
    repeat' walk_at "mv_st"
    all_goals walk_at "mv_leaf"

def Byte (x : Int) : Prop := 0 ≤ x ∧ x < 256
theorem get8 {bs : Array UInt8} {p : Int} {t : Bool} {b d x0 x1 x2 x3 : Int} {G : List PyData} (hp : 0 ≤ p) (hz : p + 4 ≤ bs.size) (hbs : bs.size ≤ 1000) (hc : cutB bs p (p + 4) = byteArr [x0, x1, x2, x3]) (h0 : Byte x0) (h1 : Byte x1) (h2 : Byte x2) (h3 : Byte x3)
    (hadj : CallJ 1 (.ref 50) [.int (x0 + 256 * x1), .int (x2 + 256 * x3), .bool t, .int b, .int d] (.tup G)) (hG : ∀ d ∈ G, Plain d) :
    CallJ 2 (.ref 66) [.bytes bs, .int p, .int 80, .bool t, .int b, .int d] (.tup G) := by
  refine CallJ.fn (names := ["data", "pos", "bv", "reldelta", "browx", "bcolx"]) (dvs := []) (dds := []) (fun P => rfl) rfl (fun P => rfl) ?_ (fun _ _ => .nil) (by decide) (by decide) (by decide) ?_
  · intro w s vs hl hK
    match vs, hl with
    | [a, b, c, d, e, f], _ => exact binds_K (K := hd.heap_39 w.params) hK rfl (T := 59) rfl rfl rfl rfl
  · intro w mg mb A h₀ L F
    refine Ex.cons ?_
    refine' Ex1.ite ?q1 (fun _ => ?q2) (fun h => ?q3)
    case q1 => walk_at "mv_t"
    case q3 => exact absurd h (by decide)
    refine Ex.cons ?_
    refine' Ex1.unpack ?r1 ?r2 ?r3
    case r1 =>
      refine' Ev.callG ?s1 cle_b ?s2 (unpack_HH h0 h1 h2 h3) (List.cons_ne_nil _ _)
      case s1 => walk_at "mv_glob"
      case s2 =>
        refine EvArgs.cons (EvA.of Ev.str) (EvArgs.cons (EvA.of ?_) EvArgs.nil)
        refine' Ev.eq (Ev.cutB ?u1 ?u2 ?u3 hp (by omega) (by exact hz) (by omega)) (congrArg D.bytes hc)
        case u1 => walk_at "mv_ev"
        case u2 => walk_at "mv_ev"
        case u3 => walk_at "mv_ev"
    case r2 => walk_at "mv_unp"
    refine Ex.cons ?_
    refine' Ex1.ret ?v1 rfl (.tup hG)
    refine' Ev.callG ?w1 ?w2 ?w3 hadj (List.cons_ne_nil _ _)
    case w1 => walk_at "mv_glob"
    case w2 => walk_at "mv_callee"
    case w3 => walk_at "mv_args"
end

/-! ### MQ -/
section
set_option maxHeartbeats 1000000
theorem get7 {bs : Array UInt8} {p : Int} {t : Bool} {b d x0 x1 x2 : Int} {G : List PyData} (hp : 0 ≤ p) (hz : p + 3 ≤ bs.size) (hbs : bs.size ≤ 1000) (hc : cutB bs p (p + 3) = byteArr [x0, x1, x2]) (h0 : Byte x0) (h1 : Byte x1) (h2 : Byte x2)
    (hadj : CallJ 1 (.ref 58) [.int (x0 + 256 * x1), .int x2, .bool t, .int b, .int d] (.tup G)) (hG : ∀ d ∈ G, Plain d) :
    CallJ 2 (.ref 66) [.bytes bs, .int p, .int 70, .bool t, .int b, .int d] (.tup G) := by
  refine CallJ.fn (names := ["data", "pos", "bv", "reldelta", "browx", "bcolx"]) (dvs := []) (dds := []) (fun P => rfl) rfl (fun P => rfl) ?_ (fun _ _ => .nil) (by decide) (by decide) (by decide) ?_
  · intro w s vs hl hK
    match vs, hl with
    | [a, b, c, d, e, f], _ => exact binds_K (K := hd.heap_39 w.params) hK rfl (T := 59) rfl rfl rfl rfl
  · intro w mg mb A h₀ L F
    refine Ex.cons ?_
    refine' Ex1.ite ?q1 (fun h => ?q2) (fun _ => ?q3)
    case q1 => walk_at "mv_t"
    case q2 => exact absurd h (by decide)
    refine Ex.cons ?_
    refine' Ex1.unpack ?r1 ?r2 ?r3
    case r1 =>
      refine' Ev.callG ?s1 cle_b ?s2 (unpack_HB h0 h1 h2) (List.cons_ne_nil _ _)
      case s1 => walk_at "mv_glob"
      case s2 =>
        refine EvArgs.cons (EvA.of Ev.str) (EvArgs.cons (EvA.of ?_) EvArgs.nil)
        refine' Ev.eq (Ev.cutB ?u1 ?u2 ?u3 hp (by omega) (by exact hz) (by omega)) (congrArg D.bytes hc)
        case u1 => walk_at "mv_ev"
        case u2 => walk_at "mv_ev"
        case u3 => walk_at "mv_ev"
    case r2 => walk_at "mv_unp"
    refine Ex.cons ?_
    refine' Ex1.ret ?v1 rfl (.tup hG)
    refine' Ev.callG ?w1 ?w2 ?w3 hadj (List.cons_ne_nil _ _)
    case w1 => walk_at "mv_glob"
    case w2 => walk_at "mv_callee"
    case w3 => walk_at "mv_args"
theorem range8 {bs : Array UInt8} {p : Int} {t : Bool} {b d x0 x1 x2 x3 x4 x5 x6 x7 : Int} {G G' : List PyData} (hp : 0 ≤ p) (hz : p + 8 ≤ bs.size) (hbs : bs.size ≤ 1000) (hc : cutB bs p (p + 8) = byteArr [x0, x1, x2, x3, x4, x5, x6, x7])
    (h0 : Byte x0) (h1 : Byte x1) (h2 : Byte x2) (h3 : Byte x3) (h4 : Byte x4) (h5 : Byte x5) (h6 : Byte x6) (h7 : Byte x7)
    (hadj : CallJ 1 (.ref 50) [.int (x0 + 256 * x1), .int (x4 + 256 * x5), .bool t, .int b, .int d] (.tup G)) (hadj' : CallJ 1 (.ref 50) [.int (x2 + 256 * x3), .int (x6 + 256 * x7), .bool t, .int b, .int d] (.tup G')) (hG : ∀ d ∈ G, Plain d) (hG' : ∀ d ∈ G', Plain d) :
    CallJ 2 (.ref 74) [.bytes bs, .int p, .int 80, .bool t, .int b, .int d] (.tup [.tuple G, .tuple G']) := by
  refine CallJ.fn (names := ["data", "pos", "bv", "reldelta", "browx", "bcolx"]) (dvs := []) (dds := []) (fun P => rfl) rfl (fun P => rfl) ?_ (fun _ _ => .nil) (by decide) (by decide) (by decide) ?_
  · intro w s vs hl hK
    match vs, hl with
    | [a, b, c, d, e, f], _ => exact binds_K (K := hd.heap_39 w.params) hK rfl (T := 67) rfl rfl rfl rfl
  · intro w mg mb A h₀ L F
    refine Ex.cons ?_
    refine' Ex1.ite ?q1 (fun _ => ?q2) (fun h => ?q3)
    case q1 => walk_at "mv_t"
    case q3 => exact absurd h (by decide)
    refine Ex.cons ?_
    refine' Ex1.unpack ?r1 ?r2 ?r3
    case r1 =>
      refine' Ev.callG ?s1 cle_b ?s2 (unpack_HHHH h0 h1 h2 h3 h4 h5 h6 h7) (List.cons_ne_nil _ _)
      case s1 => walk_at "mv_glob"
      case s2 =>
        refine EvArgs.cons (EvA.of Ev.str) (EvArgs.cons (EvA.of ?_) EvArgs.nil)
        refine' Ev.eq (Ev.cutB ?u1 ?u2 ?u3 hp (by omega) (by exact hz) (by omega)) (congrArg D.bytes hc)
        case u1 => walk_at "mv_ev"
        case u2 => walk_at "mv_ev"
        case u3 => walk_at "mv_ev"
    case r2 => walk_at "mv_unp"
    refine Ex.cons ?_
    refine' Ex1.assign ?v1 (.inl rfl) ?v2
    case v1 =>
      refine' Ev.callG ?w1 ?w2 ?w3 hadj (List.cons_ne_nil _ _)
      case w1 => walk_at "mv_glob"
      case w2 => walk_at "mv_callee"
      case w3 => walk_at "mv_args"
    refine Ex.cons ?_
    refine' Ex1.assign ?y1 (.inl rfl) ?y2
    case y1 =>
      refine' Ev.callG ?z1 ?z2 ?z3 hadj' (List.cons_ne_nil _ _)
      case z1 => walk_at "mv_glob"
      case z2 => walk_at "mv_callee"
      case z3 => walk_at "mv_args"
    refine Ex.cons ?_
    refine' Ex1.ret ?a1 rfl (.tup (plains_cons (.tup hG) (plains_cons (.tup hG') plains_nil)))
    walk_at "mv_ev"
theorem range7 {bs : Array UInt8} {p : Int} {t : Bool} {b d x0 x1 x2 x3 x4 x5 : Int} {G G' : List PyData} (hp : 0 ≤ p) (hz : p + 6 ≤ bs.size) (hbs : bs.size ≤ 1000) (hc : cutB bs p (p + 6) = byteArr [x0, x1, x2, x3, x4, x5])
    (h0 : Byte x0) (h1 : Byte x1) (h2 : Byte x2) (h3 : Byte x3) (h4 : Byte x4) (h5 : Byte x5)
    (hadj : CallJ 1 (.ref 58) [.int (x0 + 256 * x1), .int x4, .bool t, .int b, .int d] (.tup G)) (hadj' : CallJ 1 (.ref 58) [.int (x2 + 256 * x3), .int x5, .bool t, .int b, .int d] (.tup G')) (hG : ∀ d ∈ G, Plain d) (hG' : ∀ d ∈ G', Plain d) :
    CallJ 2 (.ref 74) [.bytes bs, .int p, .int 70, .bool t, .int b, .int d] (.tup [.tuple G, .tuple G']) := by
  refine CallJ.fn (names := ["data", "pos", "bv", "reldelta", "browx", "bcolx"]) (dvs := []) (dds := []) (fun P => rfl) rfl (fun P => rfl) ?_ (fun _ _ => .nil) (by decide) (by decide) (by decide) ?_
  · intro w s vs hl hK
    match vs, hl with
    | [a, b, c, d, e, f], _ => exact binds_K (K := hd.heap_39 w.params) hK rfl (T := 67) rfl rfl rfl rfl
  · intro w mg mb A h₀ L F
    refine Ex.cons ?_
    refine' Ex1.ite ?q1 (fun h => ?q2) (fun _ => ?q3)
    case q1 => walk_at "mv_t"
    case q2 => exact absurd h (by decide)
    refine Ex.cons ?_
    refine' Ex1.unpack ?r1 ?r2 ?r3
    case r1 =>
      refine' Ev.callG ?s1 cle_b ?s2 (unpack_HHBB h0 h1 h2 h3 h4 h5) (List.cons_ne_nil _ _)
      case s1 => walk_at "mv_glob"
      case s2 =>
        refine EvArgs.cons (EvA.of Ev.str) (EvArgs.cons (EvA.of ?_) EvArgs.nil)
        refine' Ev.eq (Ev.cutB ?u1 ?u2 ?u3 hp (by omega) (by exact hz) (by omega)) (congrArg D.bytes hc)
        case u1 => walk_at "mv_ev"
        case u2 => walk_at "mv_ev"
        case u3 => walk_at "mv_ev"
    case r2 => walk_at "mv_unp"
    refine Ex.cons ?_
    refine' Ex1.assign ?v1 (.inl rfl) ?v2
    case v1 =>
      refine' Ev.callG ?w1 ?w2 ?w3 hadj (List.cons_ne_nil _ _)
      case w1 => walk_at "mv_glob"
      case w2 => walk_at "mv_callee"
      case w3 => walk_at "mv_args"
    refine Ex.cons ?_
    refine' Ex1.assign ?y1 (.inl rfl) ?y2
    case y1 =>
      refine' Ev.callG ?z1 ?z2 ?z3 hadj' (List.cons_ne_nil _ _)
      case z1 => walk_at "mv_glob"
      case z2 => walk_at "mv_callee"
      case z3 => walk_at "mv_args"
    refine Ex.cons ?_
    refine' Ex1.ret ?a1 rfl (.tup (plains_cons (.tup hG) (plains_cons (.tup hG') plains_nil)))
    walk_at "mv_ev"
end

/-! ### NA -/

/-! ## the lengths of texts -/
def Ln (x : Str) (n : Nat) : Prop := x.length ≤ n
theorem Ln.app {x y : Str} {n m : Nat} (h : Ln x n) (h' : Ln y m) : Ln (x ++ y) (n + m) := by
  unfold Ln at *
  rw [PySem.Str.length_append]; omega
theorem Ln.lit {s : String} : Ln (Str.ofString s) s.length := by
  unfold Ln
  rw [PySem.ofString_length]
  exact Nat.le_refl _
theorem Ln.dec {i : Int} (h : -(10 ^ 10) < i) (h2 : i < 10 ^ 10) : Ln (Mine.dec i) 11 := by
  unfold Ln
  by_cases q : i < 0
  · rw [dec_neg q, PySem.Str.length_append]
    have := toString_length_le (v := -i) (by omega) (k := 10) (by decide) (by omega)
    have e1 : (Str.ofString "-").length = 1 := by decide +kernel
    unfold Mine.dec
    omega
  · have := toString_length_le (v := i) (by omega) (k := 10) (by decide) (by omega)
    unfold Mine.dec
    omega
theorem Ln.le {x : Str} {n : Nat} (h : Ln x n) (hn : n ≤ 1000000) : x.length ≤ 1000000 := Nat.le_trans h hn
theorem Ln.le2 {x : Str} {n : Nat} (h : Ln x n) (hn : n ≤ 1000000) : x.length ≤ 16777216 := Nat.le_trans h (Nat.le_trans hn (by decide))
theorem Ln.up {x : Str} {n m : Nat} (h : Ln x n) (hn : n ≤ m) : Ln x m := Nat.le_trans h hn
theorem BinJ.addL {x y : Str} {n m : Nat} (hx : Ln x n) (hy : Ln y m) (h : n + m ≤ 16777216) : BinJ .Add (.str x) (.str y) (.str (x ++ y)) := BinJ.adds (by unfold Ln at *; omega)

def letter (i : Int) : Str := ⟨#[65 + i.toNat]⟩
def cn (c : Int) : Str := if c ≤ 25 then letter c else letter (c / 26 - 1) ++ letter (c % 26)
theorem Ln.letter {i : Int} : Ln (Mine.letter i) 1 := Nat.le_refl 1
theorem Ln.cn {c : Int} : Ln (Mine.cn c) 2 := by
  unfold Mine.cn
  split
  · exact Ln.letter.up (by decide)
  · exact Ln.app Ln.letter Ln.letter
theorem abc_get : ∀ k < 26, (Str.ofString "ABCDEFGHIJKLMNOPQRSTUVWXYZ").cps.toList[k]? = some (65 + k) := by decide +kernel
theorem SubJ.abc {i : Int} (h0 : 0 ≤ i) (h1 : i < 26) : SubJ (.str (Str.ofString "ABCDEFGHIJKLMNOPQRSTUVWXYZ")) (.int i) (.str (letter i)) :=
  SubJ.str h0 (abc_get _ (by omega))

local macro_rules | `(tactic| walk_at "mv_ln") => `(tactic| first
  | with_reducible exact Ln.lit
  | with_reducible exact Ln.cn
  | with_reducible exact Ln.letter
  | with_reducible assumption
  | ((with_reducible refine Ln.dec ?_ ?_) <;> omega)
  | ((with_reducible refine' Ln.app ?h1 ?h2); (case h1 => walk_at "mv_ln"); (case h2 => walk_at "mv_ln")))
local macro_rules | `(tactic| walk_at "mv_lx") => `(tactic| (refine' Ln.le ?h1 ?h2; (case h1 => walk_at "mv_ln"); (case h2 => exact Nat.le_of_ble_eq_true rfl)))
local macro_rules | `(tactic| walk_at "mv_bin") => `(tactic| first
  | exact BinJ.add
  | exact BinJ.sub
  | (refine' BinJ.addL ?h1 ?h2 ?h3; (case h1 => walk_at "mv_ln"); (case h2 => walk_at "mv_ln"); (case h3 => exact Nat.le_of_ble_eq_true rfl))
  | ((with_reducible refine fmt_R ?_ ?_) <;> omega)
  | ((with_reducible refine fmt_C ?_ ?_) <;> omega)
  | ((with_reducible refine fmt_S ?_ ?_) <;> omega)
  | ((with_reducible refine fmt_D ?_ ?_) <;> omega)
  | ((with_reducible refine fmt_Rb ?_ ?_) <;> omega)
  | ((with_reducible refine fmt_Cb ?_ ?_) <;> omega)
  | ((with_reducible refine fmt_rc ?_ ?_ ?_ ?_) <;> omega)
  | ((with_reducible refine fmt_S1 ?_ ?_) <;> omega)
  | ((with_reducible refine fmt_sd ?_ ?_ ?_) <;> first | omega | walk_at "mv_lx")
  | ((with_reducible refine fmt_ss ?_ ?_ ?_) <;> first | omega | walk_at "mv_lx")
  | ((with_reducible refine fmt_star ?_ ?_ ?_) <;> first | omega | walk_at "mv_lx")
  | ((with_reducible refine fmt_colon ?_ ?_) <;> first | omega | walk_at "mv_lx")
  | exact BinJ.emod (by walk_at "mv_ar")
  | exact BinJ.ediv (by walk_at "mv_ar") (by walk_at "mv_ar")
  | exact BinJ.rsh15
  | exact BinJ.rsh14
  | exact BinJ.and1
  | exact BinJ.and255
  | exact BinJ.and16383
  | exact BinJ.and32768
  | exact BinJ.and16384)

section
set_option maxHeartbeats 1000000
theorem cn_call (c : Int) (h0 : 0 ≤ c) (h1 : c < 702) : CallJ 1 (.ref 120) [.int c] (.str (cn c)) := by
  refine CallJ.fn (names := ["colx"]) (dvs := []) (dds := []) (fun P => rfl) rfl (fun P => rfl) ?_ (fun _ _ => .nil) (by decide) (by decide) (by decide) ?_
  · intro w s vs hl hK
    match vs, hl with
    | [a], _ => exact BindsTo.of_eq rfl
  · intro w mg mb A h₀ L F
    walk_at "mv_st"
    refine Ex.cons ?_
    refine' Ex1.ite ?q1 (fun h => ?q2) (fun h => ?q3)
    case q1 => walk_at "mv_t"
    case q2 =>
      have h := of_decide_eq_true h
      refine Ex.cons ?_
      refine' Ex1.ret ?a1 ?a2 (.str _)
      case a1 =>
        refine' Ev.sub ?b1 ?b2 (SubJ.abc h0 (by omega))
        case b1 => walk_at "mv_ev"
        case b2 => walk_at "mv_ev"
      unfold cn; rw [if_pos h]
    case q3 =>
      have h := of_decide_eq_false h
      walk_at "mv_st"
      refine Ex.cons ?_
      refine' Ex1.ret ?da1 ?da2 (.str _)
      case da1 =>
        refine' Ev.bin ?c1 ?c2 (BinJ.addL Ln.letter Ln.letter (by decide))
        case c1 =>
          refine' Ev.sub ?e1 ?e2 (SubJ.abc (i := c / 26 - 1) (by omega) (by omega))
          case e1 => walk_at "mv_ev"
          case e2 => walk_at "mv_ev"
        case c2 =>
          refine' Ev.sub ?f1 ?f2 (SubJ.abc (i := c % 26) (by omega) (by omega))
          case f1 => walk_at "mv_ev"
          case f2 => walk_at "mv_ev"
      unfold cn; rw [if_neg h]
end

/-! ### NB -/
local macro_rules | `(tactic| walk_at "mv_call") => `(tactic| exact cn_call _ (by omega) (by omega))
local macro_rules | `(tactic| walk_at "mv_tru") => `(tactic| assumption)

local macro_rules | `(tactic| walk_at "mv_dead") => `(tactic| first
  | contradiction
  | (exfalso; walk_at "mv_norm" <;> first | contradiction | omega))
local macro_rules | `(tactic| walk_at "mv_walk") => `(tactic| repeat' (walk_at "mv_st" <;> try walk_at "mv_dead"))
local macro_rules | `(tactic| walk_at "mv_text") => `(tactic| first | (with_reducible rfl) | (refine congrArg D.str ?_; (walk_at "mv_norm" <;> simp [*])) | rfl)
def rowrel (r rr b : Int) (q : Bool) : Str :=
  if rr = 0 then (if q then Str.ofString "R" ++ dec (r + 1) else Str.ofString "$" ++ dec (r + 1)) else
  if q then (if r = 0 then Str.ofString "R" else Str.ofString "R[" ++ dec r ++ Str.ofString "]") else dec ((b + r) % 65536 + 1)
def colrel (c cr d : Int) (q : Bool) : Str :=
  if cr = 0 then (if q then Str.ofString "C" ++ dec (c + 1) else Str.ofString "$" ++ cn c) else
  if q then (if c = 0 then Str.ofString "C" else Str.ofString "C[" ++ dec c ++ Str.ofString "]") else cn ((d + c) % 256)
def nmabs (r c : Int) (q : Bool) : Str := if q then Str.ofString "R" ++ dec (r + 1) ++ Str.ofString "C" ++ dec (c + 1) else Str.ofString "$" ++ cn c ++ Str.ofString "$" ++ dec (r + 1)
section
set_option maxHeartbeats 400000
theorem rowrel_call (r rr b : Int) (rc : PyData) (q : Bool) (htr : TruJ (.py rc) q) (h1 : rr = 0 → 0 ≤ r) (h2 : -(10 ^ 9) < r) (h3 : r < 10 ^ 9) : CallJ 1 (.ref 82) [.int r, .int rr, .int b, .py rc] (.str (rowrel r rr b q)) := by
  refine CallJ.fn (names := ["rowx", "rowxrel", "browx", "r1c1"]) (dvs := []) (dds := []) (fun P => rfl) rfl (fun P => rfl) ?_ (fun _ _ => .nil) (by decide) (by decide) (by decide) ?_
  · intro w s vs hl hK
    match vs, hl with
    | [a, b, c, d], _ => exact binds_K (K := hd.heap_39 w.params) hK rfl (T := 75) rfl rfl rfl rfl
  · intro w mg mb A h₀ L F
    unfold rowrel
    by_cases e : rr = 0
    · subst e
      have h1 := h1 rfl
      cases q <;> walk_at "mv_walk"
      all_goals walk_at "mv_text"
    · cases q <;> walk_at "mv_walk"
      all_goals walk_at "mv_text"
theorem rowrel_callN (r rr : Int) (rc : PyData) (h1 : rr = 0 → 0 ≤ r) (h2 : -(10 ^ 9) < r) (h3 : r < 10 ^ 9) : CallJ 1 (.ref 82) [.int r, .int rr, .none, .py rc] (.str (rowrel r rr 0 true)) := by
  refine CallJ.fn (names := ["rowx", "rowxrel", "browx", "r1c1"]) (dvs := []) (dds := []) (fun P => rfl) rfl (fun P => rfl) ?_ (fun _ _ => .nil) (by decide) (by decide) (by decide) ?_
  · intro w s vs hl hK
    match vs, hl with
    | [a, b, c, d], _ => exact binds_K (K := hd.heap_39 w.params) hK rfl (T := 75) rfl rfl rfl rfl
  · intro w mg mb A h₀ L F
    unfold rowrel
    by_cases e : rr = 0
    · subst e
      have h1 := h1 rfl
      walk_at "mv_walk"
      all_goals walk_at "mv_text"
    · walk_at "mv_walk"
      all_goals walk_at "mv_text"
theorem colrel_call (c cr d : Int) (rc : PyData) (q : Bool) (htr : TruJ (.py rc) q) (h1 : cr = 0 → 0 ≤ c ∧ c < 702) (h2 : -(10 ^ 9) < c) (h3 : c < 10 ^ 9) : CallJ 2 (.ref 90) [.int c, .int cr, .int d, .py rc] (.str (colrel c cr d q)) := by
  refine CallJ.fn (names := ["colx", "colxrel", "bcolx", "r1c1"]) (dvs := []) (dds := []) (fun P => rfl) rfl (fun P => rfl) ?_ (fun _ _ => .nil) (by decide) (by decide) (by decide) ?_
  · intro w s vs hl hK
    match vs, hl with
    | [a, b, c, d], _ => exact binds_K (K := hd.heap_39 w.params) hK rfl (T := 83) rfl rfl rfl rfl
  · intro w mg mb A h₀ L F
    unfold colrel
    by_cases e : cr = 0
    · subst e
      have h1 := h1 rfl
      cases q <;> walk_at "mv_walk"
      all_goals walk_at "mv_text"
    · cases q <;> walk_at "mv_walk"
      all_goals walk_at "mv_text"
theorem colrel_callN (c cr : Int) (rc : PyData) (h1 : cr = 0 → 0 ≤ c ∧ c < 702) (h2 : -(10 ^ 9) < c) (h3 : c < 10 ^ 9) : CallJ 2 (.ref 90) [.int c, .int cr, .none, .py rc] (.str (colrel c cr 0 true)) := by
  refine CallJ.fn (names := ["colx", "colxrel", "bcolx", "r1c1"]) (dvs := []) (dds := []) (fun P => rfl) rfl (fun P => rfl) ?_ (fun _ _ => .nil) (by decide) (by decide) (by decide) ?_
  · intro w s vs hl hK
    match vs, hl with
    | [a, b, c, d], _ => exact binds_K (K := hd.heap_39 w.params) hK rfl (T := 83) rfl rfl rfl rfl
  · intro w mg mb A h₀ L F
    unfold colrel
    by_cases e : cr = 0
    · subst e
      have h1 := h1 rfl
      walk_at "mv_walk"
      all_goals walk_at "mv_text"
    · walk_at "mv_walk"
      all_goals walk_at "mv_text"
theorem nmabs_call (r c : Int) (rc : PyData) (q : Bool) (htr : TruJ (.py rc) q) (h1 : 0 ≤ r) (h2 : r < 10 ^ 9) (h3 : 0 ≤ c) (h4 : c < 702) : CallJ 2 (.ref 105) [.int r, .int c, .py rc] (.str (nmabs r c q)) := by
  refine CallJ.fn (names := ["rowx", "colx", "r1c1"]) (dvs := []) (dds := []) (fun P => rfl) rfl (fun P => rfl) ?_ (fun _ _ => .nil) (by decide) (by decide) (by decide) ?_
  · intro w s vs hl hK
    match vs, hl with
    | [a, b, c], _ => exact binds_K (K := hd.heap_39 w.params) hK rfl (T := 98) rfl rfl rfl rfl
  · intro w mg mb A h₀ L F
    unfold nmabs
    cases q <;> walk_at "mv_walk"
    all_goals walk_at "mv_text"
theorem nmabs_call2 (r c : Int) (h1 : 0 ≤ r) (h2 : r < 10 ^ 9) (h3 : 0 ≤ c) (h4 : c < 702) : CallJ 2 (.ref 105) [.int r, .int c] (.str (nmabs r c false)) := by
  refine CallJ.fn (names := ["rowx", "colx", "r1c1"]) (dvs := [.int 0 413]) (dds := [.int 0]) (fun P => rfl) rfl (fun P => rfl) ?_ (fun _ _ => .cons (.int _ _) .nil) (by decide) (by decide) (by decide) ?_
  · intro w s vs hl hK
    match vs, hl with
    | [a, b], _ => exact binds_K (K := hd.heap_39 w.params) hK rfl (T := 98) rfl rfl rfl rfl
  · intro w mg mb A h₀ L F
    unfold nmabs
    walk_at "mv_walk"
    all_goals walk_at "mv_text"
theorem cellname_call (r c : Int) (h1 : 0 ≤ r) (h2 : r < 10 ^ 9) (h3 : 0 ≤ c) (h4 : c < 702) : CallJ 2 (.ref 97) [.int r, .int c] (.str (cn c ++ dec (r + 1))) := by
  refine CallJ.fn (names := ["rowx", "colx"]) (dvs := []) (dds := []) (fun P => rfl) rfl (fun P => rfl) ?_ (fun _ _ => .nil) (by decide) (by decide) (by decide) ?_
  · intro w s vs hl hK
    match vs, hl with
    | [a, b], _ => exact BindsTo.of_eq rfl
  · intro w mg mb A h₀ L F
    walk_at "mv_walk"
    all_goals walk_at "mv_text"
end

/-! ### NC -/
theorem pm_body (b : Bool) (t : Tok) : Builtin.«str.__getitem__» ⟨[.str (Str.ofString "+-") t, .bool b], []⟩ = retStr (Str.ofString (if b then "-" else "+")) := by
  cases b
  · kernel_rfl
  · kernel_rfl
theorem SubJ.pm {b : Bool} : SubJ (.str (Str.ofString "+-")) (.bool b) (.str (Str.ofString (if b then "-" else "+"))) := ⟨fun w A s Q E v1 v2 as1 as2 F am r1 r2 k => by
  cases r1 with
  | str _ t => cases r2 with
    | bool _ =>
      refine ⟨"str", _, typeIs_str s _ t, PySem.F.slot_str_getitem.lookup, ?_⟩
      refine getItem_slot (typeIs_str s _ t) (by decide) PySem.F.slot_str_getitem (wpAny_call_entry PySem.F.slot_str_getitem (typeIs_str s _ t) PySem.F.entry_str_getitem ?_ (PySem.F.args_str_getitem_2 _ _))
      rw [pm_body]
      exact wpAny_bind (wpAny_mkStr (hx := by cases b <;> decide +kernel) (wpAny_pure ⟨_, rfl, k _ [] _ (Grow.tok s _) (RdV.str _ _) (fun _ x => nomatch x)⟩))⟩

def nmrel (r c rr cr b d : Int) (q : Bool) : Str := if rr = 0 ∧ cr = 0 then nmabs r c q else if q then rowrel r rr b true ++ colrel c cr d true else colrel c cr d false ++ rowrel r rr b false
def nmrelN (r c rr cr : Int) (q : Bool) : Str := if rr = 0 ∧ cr = 0 then nmabs r c q else rowrel r rr 0 true ++ colrel c cr 0 true
theorem Ln.rowrel {r rr b : Int} {q : Bool} (h2 : -(10 ^ 9) < r) (h3 : r < 10 ^ 9) : Ln (Mine.rowrel r rr b q) 20 := by
  unfold Mine.rowrel
  split
  · split
    · exact Ln.up (Ln.app Ln.lit (Ln.dec (by omega) (by omega))) (by decide)
    · exact Ln.up (Ln.app Ln.lit (Ln.dec (by omega) (by omega))) (by decide)
  · split
    · split
      · exact Ln.up Ln.lit (by decide)
      · exact Ln.up (Ln.app (Ln.app Ln.lit (Ln.dec (by omega) (by omega))) Ln.lit) (by decide)
    · exact Ln.up (Ln.dec (by omega) (by omega)) (by decide)
theorem Ln.colrel {c cr d : Int} {q : Bool} (h2 : -(10 ^ 9) < c) (h3 : c < 10 ^ 9) : Ln (Mine.colrel c cr d q) 20 := by
  unfold Mine.colrel
  split
  · split
    · exact Ln.up (Ln.app Ln.lit (Ln.dec (by omega) (by omega))) (by decide)
    · exact Ln.up (Ln.app Ln.lit Ln.cn) (by decide)
  · split
    · split
      · exact Ln.up Ln.lit (by decide)
      · exact Ln.up (Ln.app (Ln.app Ln.lit (Ln.dec (by omega) (by omega))) Ln.lit) (by decide)
    · exact Ln.up Ln.cn (by decide)
theorem Ln.nmabs {r c : Int} {q : Bool} (h2 : -(10 ^ 9) < r) (h3 : r < 10 ^ 9) (h4 : -(10 ^ 9) < c) (h5 : c < 10 ^ 9) : Ln (Mine.nmabs r c q) 40 := by
  unfold Mine.nmabs
  split
  · exact Ln.up (Ln.app (Ln.app (Ln.app Ln.lit (Ln.dec (by omega) (by omega))) Ln.lit) (Ln.dec (by omega) (by omega))) (by decide)
  · exact Ln.up (Ln.app (Ln.app (Ln.app Ln.lit Ln.cn) Ln.lit) (Ln.dec (by omega) (by omega))) (by decide)
theorem Ln.nmrel {r c rr cr b d : Int} {q : Bool} (h2 : -(10 ^ 9) < r) (h3 : r < 10 ^ 9) (h4 : -(10 ^ 9) < c) (h5 : c < 10 ^ 9) : Ln (Mine.nmrel r c rr cr b d q) 40 := by
  unfold Mine.nmrel
  split
  · exact Ln.nmabs h2 h3 h4 h5
  · split
    · exact Ln.app (Ln.rowrel h2 h3) (Ln.colrel h4 h5)
    · exact Ln.app (Ln.colrel h4 h5) (Ln.rowrel h2 h3)
theorem Ln.nmrelN {r c rr cr : Int} {q : Bool} (h2 : -(10 ^ 9) < r) (h3 : r < 10 ^ 9) (h4 : -(10 ^ 9) < c) (h5 : c < 10 ^ 9) : Ln (Mine.nmrelN r c rr cr q) 40 := by
  unfold Mine.nmrelN
  split
  · exact Ln.nmabs h2 h3 h4 h5
  · exact Ln.app (Ln.rowrel h2 h3) (Ln.colrel h4 h5)
local macro_rules | `(tactic| walk_at "mv_ln") => `(tactic| first
  | ((with_reducible refine Ln.rowrel ?_ ?_) <;> omega)
  | ((with_reducible refine Ln.colrel ?_ ?_) <;> omega)
  | ((with_reducible refine Ln.nmabs ?_ ?_ ?_ ?_) <;> omega)
  | ((with_reducible refine Ln.nmrel ?_ ?_ ?_ ?_) <;> omega)
  | ((with_reducible refine Ln.nmrelN ?_ ?_ ?_ ?_) <;> omega))
local macro_rules | `(tactic| walk_at "mv_call") => `(tactic| first
  | exact (rowrel_call _ _ _ _ _ (by assumption) (by omega) (by omega) (by omega)).le (Nat.le_of_ble_eq_true rfl)
  | exact (rowrel_callN _ _ _ (by omega) (by omega) (by omega)).le (Nat.le_of_ble_eq_true rfl)
  | exact (colrel_call _ _ _ _ _ (by assumption) (by omega) (by omega) (by omega)).le (Nat.le_of_ble_eq_true rfl)
  | exact (colrel_callN _ _ _ (by omega) (by omega) (by omega)).le (Nat.le_of_ble_eq_true rfl)
  | exact (nmabs_call _ _ _ _ (by assumption) (by omega) (by omega) (by omega) (by omega)).le (Nat.le_of_ble_eq_true rfl))
theorem CallJ.fnD {X : Type} {n : Nat} {f : Addr} {full : X → List D} {short : List D} {res : X → D} (x0 : X) (P : X → Prop) (p0 : P x0) {fo : Obj} {name qual : Str} {params : Arguments} {body : List Stmt} {scope : Scope} {dV kV doc pm cdv ct : Value} {an : Option Addr} (names : List String) (dvs : List Value) {dds : List D}
    (hK : ∀ P, (hd.heap_39 P).lookup f = some fo) (hfo : fo.data = .func (fnX name qual params body scope [] dV kV doc pm an cdv ct)) (hcd : ∀ P, codeIn (hd.heap_39 P) cdv qual = true)
    (hbind : ∀ (x : X) (w : World) (s : Shared) (vs : List Value), vs.length = (full x).length → (hd.heap_39 w.params).In s.heap → BindsTo s (fnX name qual params body scope [] dV kV doc pm an cdv ct) ⟨vs, []⟩ ((names.map Str.ofString).zip (vs ++ [])))
    (hbind2 : ∀ (w : World) (s : Shared) (vs : List Value), vs.length = short.length → (hd.heap_39 w.params).In s.heap → BindsTo s (fnX name qual params body scope [] dV kV doc pm an cdv ct) ⟨vs, []⟩ ((names.map Str.ofString).zip (vs ++ dvs)))
    (hdv : ∀ F h, RdArgs F h dvs dds) (hcat : short ++ dds = full x0) (hloc : ∀ x ∈ names, scope.names.lookup (Str.ofString x) = some .local) (hnd : names.Nodup)
    (hcell : ∀ x ∈ scope.names, x.2 ≠ .cell)
    (h : ∀ x, P x → ∀ w mg mb A h₀ L F, Ex { w, mg, mb, A, h₀, env := envX qual scope L f cdv [], n, F } (names.zip (full x)) [] body (fun _ _ => False) (fun d' => d' = res x))
    (hco : scope.isCoroutine = false := by rfl) (hgen : scope.isGenerator = false := by rfl) (hk : scope.kind = .function := by rfl) : (∀ x, P x → CallJ (n + 1) (.ref f) (full x) (res x)) ∧ CallJ (n + 1) (.ref f) short (res x0) := by
  refine ⟨fun x hx => CallJ.fn (names := names) (dvs := []) (dds := []) hK hfo hcd (hbind x) (fun _ _ => .nil) hloc hnd hcell (fun w mg mb A h₀ L F => ?_) hco hgen hk, CallJ.fn (names := names) (dvs := dvs) (dds := dds) hK hfo hcd hbind2 hdv hloc hnd hcell (fun w mg mb A h₀ L F => ?_) hco hgen hk⟩
  · rw [List.append_nil]; exact h x hx w mg mb A h₀ L F
  · rw [hcat]; exact h x0 p0 w mg mb A h₀ L F
section
set_option maxHeartbeats 2000000
theorem nmrel_call : (∀ (r c rr cr b d : Int), (rr = 0 → 0 ≤ r) → -(10 ^ 9) < r → r < 10 ^ 9 → (cr = 0 → 0 ≤ c ∧ c < 702) → -(10 ^ 9) < c → c < 10 ^ 9 → (∀ (rc : PyData) (q : Bool), TruJ (.py rc) q → CallJ 3 (.ref 113) [.int r, .int c, .int rr, .int cr, .int b, .int d, .py rc] (.str (nmrel r c rr cr b d q))) ∧
      CallJ 3 (.ref 113) [.int r, .int c, .int rr, .int cr, .int b, .int d] (.str (nmrel r c rr cr b d false))) := by
  intro r c rr cr b d h1 h2 h3 h4 h5 h6
  have := CallJ.fnD (X := PyData × Bool) (n := 2) (f := 113) (full := fun x => [.int r, .int c, .int rr, .int cr, .int b, .int d, .py x.1]) (short := [.int r, .int c, .int rr, .int cr, .int b, .int d]) (res := fun x => .str (nmrel r c rr cr b d x.2)) (.int 0, false) (fun x => TruJ (.py x.1) x.2) TruJ.int
    ["rowx", "colx", "rowxrel", "colxrel", "browx", "bcolx", "r1c1"] [.int 0 423] (dds := [.int 0]) (fun P => rfl) rfl (fun P => rfl) ?b1 ?b2 (fun _ _ => .cons (.int _ _) .nil) rfl (by decide) (by decide) (by decide) ?key
  exact ⟨fun rc q htr => this.1 (rc, q) htr, this.2⟩
  case b1 =>
    intro x w s vs hl hK
    match vs, hl with
    | [a, b, c, d, e, f, g], _ => exact binds_K (K := hd.heap_39 w.params) hK rfl (T := 106) rfl rfl rfl rfl
  case b2 =>
    intro w s vs hl hK
    match vs, hl with
    | [a, b, c, d, e, f], _ => exact binds_K (K := hd.heap_39 w.params) hK rfl (T := 106) rfl rfl rfl rfl
  case key =>
    intro ⟨rc, q⟩ htr w mg mb A h₀ L F
    dsimp only at htr ⊢
    unfold nmrel
    by_cases e1 : rr = 0
    · by_cases e2 : cr = 0
      · have h1 := h1 e1
        have h4 := h4 e2
        cases q <;> walk_at "mv_walk"
        all_goals walk_at "mv_text"
      · cases q <;> walk_at "mv_walk"
        all_goals walk_at "mv_text"
    · cases q <;> walk_at "mv_walk"
      all_goals walk_at "mv_text"
theorem nmrel_callN : (∀ (r c rr cr : Int), (rr = 0 → 0 ≤ r) → -(10 ^ 9) < r → r < 10 ^ 9 → (cr = 0 → 0 ≤ c ∧ c < 702) → -(10 ^ 9) < c → c < 10 ^ 9 → (∀ (rc : PyData) (q : Bool), TruJ (.py rc) q → CallJ 3 (.ref 113) [.int r, .int c, .int rr, .int cr, .none, .none, .py rc] (.str (nmrelN r c rr cr q))) ∧
      CallJ 3 (.ref 113) [.int r, .int c, .int rr, .int cr] (.str (nmrelN r c rr cr false))) := by
  intro r c rr cr h1 h2 h3 h4 h5 h6
  have := CallJ.fnD (X := PyData × Bool) (n := 2) (f := 113) (full := fun x => [.int r, .int c, .int rr, .int cr, .none, .none, .py x.1]) (short := [.int r, .int c, .int rr, .int cr]) (res := fun x => .str (nmrelN r c rr cr x.2)) (.int 0, false) (fun x => TruJ (.py x.1) x.2) TruJ.int
    ["rowx", "colx", "rowxrel", "colxrel", "browx", "bcolx", "r1c1"] [.none, .none, .int 0 423] (dds := [.none, .none, .int 0]) (fun P => rfl) rfl (fun P => rfl) ?c1 ?c2 (fun _ _ => .cons .none (.cons .none (.cons (.int _ _) .nil))) rfl (by decide) (by decide) (by decide) ?ckey
  exact ⟨fun rc q htr => this.1 (rc, q) htr, this.2⟩
  case c1 =>
    intro x w s vs hl hK
    match vs, hl with
    | [a, b, c, d, e, f, g], _ => exact binds_K (K := hd.heap_39 w.params) hK rfl (T := 106) rfl rfl rfl rfl
  case c2 =>
    intro w s vs hl hK
    match vs, hl with
    | [a, b, c, d], _ => exact binds_K (K := hd.heap_39 w.params) hK rfl (T := 106) rfl rfl rfl rfl
  case ckey =>
    intro ⟨rc, q⟩ htr w mg mb A h₀ L F
    dsimp only at htr ⊢
    unfold nmrelN
    by_cases e1 : rr = 0
    · by_cases e2 : cr = 0
      · have h1 := h1 e1
        have h4 := h4 e2
        cases q <;> walk_at "mv_walk"
        all_goals walk_at "mv_text"
      · walk_at "mv_walk"
        all_goals walk_at "mv_text"
    · walk_at "mv_walk"
      all_goals walk_at "mv_text"
end

/-! ### ND -/
local macro_rules | `(tactic| walk_at "mv_call") => `(tactic| first
  | exact ((nmrel_call _ _ _ _ _ _ (by omega) (by omega) (by omega) (by omega) (by omega) (by omega)).1 _ _ (by assumption)).le (Nat.le_of_ble_eq_true rfl)
  | exact ((nmrel_callN _ _ _ _ (by omega) (by omega) (by omega) (by omega) (by omega) (by omega)).1 _ _ (by assumption)).le (Nat.le_of_ble_eq_true rfl)
  | exact ((nmrel_callN _ _ _ _ (by omega) (by omega) (by omega) (by omega) (by omega) (by omega)).1 _ _ TruJ.bool).le (Nat.le_of_ble_eq_true rfl)
  | exact (nmabs_call _ _ _ _ TruJ.int (by omega) (by omega) (by omega) (by omega)).le (Nat.le_of_ble_eq_true rfl)
  | exact (nmabs_call2 _ _ (by omega) (by omega) (by omega) (by omega)).le (Nat.le_of_ble_eq_true rfl))
local macro_rules | `(tactic| walk_at "mv_sub") => `(tactic| exact SubJ.pm)
section
set_option maxHeartbeats 2000000
theorem unic_call (x : Str) : CallJ 1 (.ref 143) [.str x] (.str x) := by
  refine CallJ.fn (names := ["x"]) (dvs := []) (dds := []) (fun P => rfl) rfl (fun P => rfl) ?_ (fun _ _ => .nil) (by decide) (by decide) (by decide) ?_
  · intro w s vs hl hK
    match vs, hl with
    | [a], _ => exact BindsTo.of_eq rfl
  · intro w mg mb A h₀ L F
    walk_at "mv_walk"
    all_goals walk_at "mv_text"
theorem word_call (v : Int) : CallJ 1 (.ref 172) [.int v] (.lst [.int (v % 256), .int (v / 256)]) := by
  refine CallJ.fn (names := ["value"]) (dvs := []) (dds := []) (fun P => rfl) rfl (fun P => rfl) ?_ (fun _ _ => .nil) (by decide) (by decide) (by decide) ?_
  · intro w s vs hl hK
    match vs, hl with
    | [a], _ => exact BindsTo.of_eq rfl
  · intro w mg mb A h₀ L F
    refine Ex.cons ?_
    refine' Ex1.retList ?q1 rfl ?q2 ?q3
    case q1 => walk_at "mv_all"
    case q2 => walk_at "mv_plain"
    case q3 => exact Nat.le_of_ble_eq_true rfl
def near (v r : Int) : Int := (v + r / 2) % r - r / 2
theorem near_callE (v r : Int) (hr : 0 < r) (hr2 : r < 1000000) : CallJ 1 (.ref 214) [.int v, .int r] (.int (near v r)) := by
  refine CallJ.fn (names := ["value", "reach"]) (dvs := []) (dds := []) (fun P => rfl) rfl (fun P => rfl) ?_ (fun _ _ => .nil) (by decide) (by decide) (by decide) ?_
  · intro w s vs hl hK
    match vs, hl with
    | [a, b], _ => exact BindsTo.of_eq rfl
  · intro w mg mb A h₀ L F
    walk_at "mv_walk"
    rfl
theorem expand_call (r c : Int) : CallJ 1 (.ref 150) [.int r, .int c] (adjT r (c % 256) (c / 32768 % 2) (c / 16384 % 2) 65536) := by
  refine CallJ.fn (names := ["inrow", "incol"]) (dvs := []) (dds := []) (fun P => rfl) rfl (fun P => rfl) ?_ (fun _ _ => .nil) (by decide) (by decide) (by decide) ?_
  · intro w s vs hl hK
    match vs, hl with
    | [a, b], _ => exact BindsTo.of_eq rfl
  · intro w mg mb A h₀ L F
    unfold adjT
    walk_at "mv_walk"
    all_goals walk_at "mv_leaf"
def shown (v l : Int) (f : Str) : Str := if l = 1 then Str.ofString "(*" ++ Str.ofString (if v < 0 then "-" else "+") ++ dec (if v < 0 then -v else v) ++ Str.ofString ")" else Str.ofString "$" ++ f
theorem shown_call (v l : Int) (f : Str) (h1 : -(10 ^ 9) < v) (h2 : v < 10 ^ 9) (hf : Ln f 40) : CallJ 1 (.ref 221) [.int v, .int l, .str f] (.str (shown v l f)) := by
  refine CallJ.fn (names := ["value", "loose", "fixed"]) (dvs := []) (dds := []) (fun P => rfl) rfl (fun P => rfl) ?_ (fun _ _ => .nil) (by decide) (by decide) (by decide) ?_
  · intro w s vs hl hK
    match vs, hl with
    | [a, b, c], _ => exact BindsTo.of_eq rfl
  · intro w mg mb A h₀ L F
    have hs : Ln (Str.ofString (if v < 0 then "-" else "+")) 1 := by split <;> exact Ln.lit
    have hd : Ln (dec (if v < 0 then -v else v)) 11 := by split <;> exact Ln.dec (by omega) (by omega)
    unfold shown
    refine Ex.cons ?_
    refine' Ex1.ret ?r1 rfl (.str _)
    refine' Ev.ite (b := decide (l = 1)) ?a1 (fun h => ?a2) (fun h => ?a3)
    case a1 => walk_at "mv_t"
    case a2 =>
      have h := of_decide_eq_true h
      rw [if_pos h]
      refine' Ev.bin ?b1 ?b2 (BinJ.addL (n := 14) (m := 1) ?b3 Ln.lit (by decide))
      case b1 =>
        refine' Ev.bin ?c1 ?c2 (BinJ.addL (n := 3) (m := 11) ?c3 ?c4 (by decide))
        case c1 =>
          refine' Ev.bin Ev.str ?d2 (BinJ.addL (n := 2) (m := 1) Ln.lit ?d3 (by decide))
          case d2 =>
            refine' Ev.ite (b := decide (v < 0)) ?e1 (fun h => ?e2) (fun h => ?e3)
            case e1 => walk_at "mv_t"
            case e2 => rw [if_pos (of_decide_eq_true h)]; exact Ev.str
            case e3 => rw [if_neg (of_decide_eq_false h)]; exact Ev.str
          case d3 => exact hs
        case c2 =>
          refine' Ev.callG ?f1 ?f2 ?f3 (CallJ.str ?f4) (List.cons_ne_nil _ _)
          case f1 => walk_at "mv_glob"
          case f2 => walk_at "mv_callee"
          case f3 => walk_at "mv_args"
          case f4 => split <;> omega
        case c3 => exact Ln.app Ln.lit hs
        case c4 => exact hd
      case b2 => walk_at "mv_ev"
      case b3 => exact Ln.app (Ln.app Ln.lit hs) hd
    case a3 =>
      have h := of_decide_eq_false h
      rw [if_neg h]
      walk_at "mv_ev"
end

/-! ### NE -/
theorem Ev.fs {Γ : Fc} {ρ μ e p} {x : Str} (h : Ev Γ ρ μ e (.str x)) (hx : x.length ≤ 16777216) : Ev Γ ρ μ (.FormattedValue e 115 Option.none p) (.str x) := ⟨fun s Q E S k => by
  refine wpAny_FormattedValue_s (h.run s _ E S fun v as s1 g r n => ?_)
  cases r with
  | str _ t =>
    refine SB.convS_str (fun t' tk => ?_) (by rw [sizeLine_eq]; exact hx)
    exact formatField_str (fun t'' tk' => k _ [] _ (g.trans (Grow.tok s1 tk')) (RdV.str _ _) (fun _ x => nomatch x)) (by rw [sizeLine_eq]; exact hx)⟩
theorem Ev.joined {Γ : Fc} {ρ μ e1 e2 e3 p} {x y z : Str} {n m l : Nat} (h1 : Ev Γ ρ μ e1 (.str x)) (h2 : Ev Γ ρ μ e2 (.str y)) (h3 : Ev Γ ρ μ e3 (.str z)) (l1 : Ln x n) (l2 : Ln y m) (l3 : Ln z l) (hl : n + m + l ≤ 16777216) : Ev Γ ρ μ (.JoinedStr [e1, e2, e3] p) (.str (x ++ y ++ z)) := ⟨fun s Q E S k => by
  have e : ∀ w : Str, Str.empty ++ w = w := fun w => by
    show Str.append Str.empty w = w
    cases w; simp [Str.append, Str.empty]
  unfold Ln at l1 l2 l3
  refine JoinedStr_many (joinParts_cons (h1.run s _ E S fun v1 as1 s1 g1 r1 n1 => ?_))
  cases r1 with
  | str _ t1 =>
    show _ ∧ _
    rw [e]
    refine ⟨by rw [sizeLine_eq]; omega, joinParts_cons (h2.run s1 _ E (S.grow g1) fun v2 as2 s2 g2 r2 n2 => ?_)⟩
    cases r2 with
    | str _ t2 =>
      refine ⟨by rw [sizeLine_eq, PySem.Str.length_append]; omega, joinParts_cons (h3.run s2 _ E ((S.grow g1).grow g2) fun v3 as3 s3 g3 r3 n3 => ?_)⟩
      cases r3 with
      | str _ t3 =>
        refine ⟨by rw [sizeLine_eq, PySem.Str.length_append, PySem.Str.length_append]; omega, ?_⟩
        refine joinParts_nil (k _ [] _ (g1.trans (g2.trans (g3.trans (Grow.tok s3 _)))) (RdV.str _ _) (fun _ x => nomatch x)) (by rw [sizeLine_eq, PySem.Str.length_append, PySem.Str.length_append]; omega)⟩
local macro_rules | `(tactic| walk_at "mv_call") => `(tactic| exact ((nmrel_callN _ _ _ _ (by omega) (by omega) (by omega) (by omega) (by omega) (by omega)).1 _ _ TruJ.int).le (Nat.le_of_ble_eq_true rfl))
local macro_rules | `(tactic| walk_at "mv_ev") => `(tactic| first
  | (refine' Ev.fs ?h1 ?h2; (case h1 => walk_at "mv_ev"); (case h2 => (refine' Ln.le2 ?h4 ?h5; (case h4 => walk_at "mv_ln"); (case h5 => exact Nat.le_of_ble_eq_true rfl))))
  | (refine' Ev.joined ?h1 ?h2 ?h3 ?h4 ?h5 ?h6 ?h7; (case h1 => walk_at "mv_ev"); (case h2 => walk_at "mv_ev"); (case h3 => walk_at "mv_ev"); (case h4 => walk_at "mv_ln"); (case h5 => walk_at "mv_ln"); (case h6 => walk_at "mv_ln"); (case h7 => exact Nat.le_of_ble_eq_true rfl)))
section
set_option maxHeartbeats 2000000
def rngrel (x y z t f0 f1 f2 f3 b d : Int) (q : Bool) : Str := nmrel x z f0 f2 b d q ++ Str.ofString ":" ++ nmrel (y - 1) (t - 1) f1 f3 b d q
theorem rngrel_call : (∀ (x y z t f0 f1 f2 f3 b d : Int), (f0 = 0 → 0 ≤ x) → -(10 ^ 9) < x → x < 10 ^ 9 → (f1 = 0 → 0 ≤ y - 1) → -(10 ^ 9) < y - 1 → y - 1 < 10 ^ 9 → (f2 = 0 → 0 ≤ z ∧ z < 702) → -(10 ^ 9) < z → z < 10 ^ 9 → (f3 = 0 → 0 ≤ t - 1 ∧ t - 1 < 702) → -(10 ^ 9) < t - 1 → t - 1 < 10 ^ 9 →
    (∀ (rc : PyData) (q : Bool), TruJ (.py rc) q → CallJ 4 (.ref 136) [.tup [.int x, .int y, .int z, .int t], .tup [.int f0, .int f1, .int f2, .int f3], .int b, .int d, .py rc] (.str (rngrel x y z t f0 f1 f2 f3 b d q))) ∧
      CallJ 4 (.ref 136) [.tup [.int x, .int y, .int z, .int t], .tup [.int f0, .int f1, .int f2, .int f3], .int b, .int d] (.str (rngrel x y z t f0 f1 f2 f3 b d false))) := by
  intro x y z t f0 f1 f2 f3 b d h1 h2 h3 h4 h5 h6 h7 h8 h9 h10 h11 h12
  have := CallJ.fnD (X := PyData × Bool) (n := 3) (f := 136) (full := fun w => [.tup [.int x, .int y, .int z, .int t], .tup [.int f0, .int f1, .int f2, .int f3], .int b, .int d, .py w.1]) (short := [.tup [.int x, .int y, .int z, .int t], .tup [.int f0, .int f1, .int f2, .int f3], .int b, .int d]) (res := fun w => .str (rngrel x y z t f0 f1 f2 f3 b d w.2)) (.int 0, false) (fun w => TruJ (.py w.1) w.2) TruJ.int
    ["rlo_rhi_clo_chi", "rlorel_rhirel_clorel_chirel", "browx", "bcolx", "r1c1"] [.int 0 462] (dds := [.int 0]) (fun P => rfl) rfl (fun P => rfl) ?b1 ?b2 (fun _ _ => .cons (.int _ _) .nil) rfl (by decide) (by decide) (by decide) ?key
  exact ⟨fun rc q htr => this.1 (rc, q) htr, this.2⟩
  case b1 =>
    intro x w s vs hl hK
    match vs, hl with
    | [a, b, c, d, e], _ => exact binds_K (K := hd.heap_39 w.params) hK rfl (T := 129) rfl rfl rfl rfl
  case b2 =>
    intro w s vs hl hK
    match vs, hl with
    | [a, b, c, d], _ => exact binds_K (K := hd.heap_39 w.params) hK rfl (T := 129) rfl rfl rfl rfl
  case key =>
    intro ⟨rc, q⟩ htr w mg mb A h₀ L F
    dsimp only at htr ⊢
    unfold rngrel
    walk_at "mv_walk"
    all_goals walk_at "mv_text"
def rngrelN (x y z t f0 f1 f2 f3 : Int) : Str :=
  if f0 = 0 ∧ f1 = 0 ∧ f2 = 0 ∧ f3 = 0 then nmrelN x z f0 f2 false ++ Str.ofString ":" ++ nmrelN (y - 1) (t - 1) f1 f3 false
  else nmrelN x z f0 f2 true ++ Str.ofString ":" ++ nmrelN (y - 1) (t - 1) f1 f3 true
theorem rngrelN_call : (∀ (x y z t f0 f1 f2 f3 : Int), (f0 = 0 → 0 ≤ x) → -(10 ^ 9) < x → x < 10 ^ 9 → (f1 = 0 → 0 ≤ y - 1) → -(10 ^ 9) < y - 1 → y - 1 < 10 ^ 9 → (f2 = 0 → 0 ≤ z ∧ z < 702) → -(10 ^ 9) < z → z < 10 ^ 9 → (f3 = 0 → 0 ≤ t - 1 ∧ t - 1 < 702) → -(10 ^ 9) < t - 1 → t - 1 < 10 ^ 9 →
      CallJ 4 (.ref 136) [.tup [.int x, .int y, .int z, .int t], .tup [.int f0, .int f1, .int f2, .int f3]] (.str (rngrelN x y z t f0 f1 f2 f3))) := by
  intro x y z t f0 f1 f2 f3 h1 h2 h3 h4 h5 h6 h7 h8 h9 h10 h11 h12
  refine CallJ.fn (names := ["rlo_rhi_clo_chi", "rlorel_rhirel_clorel_chirel", "browx", "bcolx", "r1c1"]) (dvs := [.none, .none, .int 0 462]) (dds := [.none, .none, .int 0]) (fun P => rfl) rfl (fun P => rfl) ?_ (fun _ _ => .cons .none (.cons .none (.cons (.int _ _) .nil))) (by decide) (by decide) (by decide) ?_
  · intro w s vs hl hK
    match vs, hl with
    | [a, b], _ => exact binds_K (K := hd.heap_39 w.params) hK rfl (T := 129) rfl rfl rfl rfl
  · intro w mg mb A h₀ L F
    unfold rngrelN
    by_cases c : f0 = 0 ∧ f1 = 0 ∧ f2 = 0 ∧ f3 = 0
    · rw [if_pos c]
      walk_at "mv_walk"
      all_goals rfl
    · rw [if_neg c]
      walk_at "mv_walk"
      all_goals rfl
def rng2 (x z t b : Int) : Str := if t = 0 ∧ b = 0 then nmabs x z false else nmabs x z false ++ Str.ofString ":" ++ nmabs (x + t) (z + b) false
theorem rng2_call (x z t b : Int) (h1 : 0 ≤ x) (h2 : x < 10 ^ 8) (h3 : 0 ≤ z) (h4 : z < 700) (h5 : 0 ≤ t) (h6 : t < 3) (h7 : 0 ≤ b) (h8 : b < 3) (h9 : z + b < 702) : CallJ 3 (.ref 128) [.int x, .int (x + 1 + t), .int z, .int (z + 1 + b)] (.str (rng2 x z t b)) := by
  refine CallJ.fn (names := ["rlo", "rhi", "clo", "chi", "r1c1"]) (dvs := [.int 0 450]) (dds := [.int 0]) (fun P => rfl) rfl (fun P => rfl) ?_ (fun _ _ => .cons (.int _ _) .nil) (by decide) (by decide) (by decide) ?_
  · intro w s vs hl hK
    match vs, hl with
    | [a, b, c, d], _ => exact binds_K (K := hd.heap_39 w.params) hK rfl (T := 121) rfl rfl rfl rfl
  · intro w mg mb A h₀ L F
    unfold rng2
    by_cases c : t = 0 ∧ b = 0
    · rw [if_pos c]
      walk_at "mv_walk"
      all_goals rfl
    · rw [if_neg c]
      walk_at "mv_walk"
      refine congrArg D.str ?_
      rw [show x + 1 + t - 1 = x + t from by omega, show z + 1 + b - 1 = z + b from by omega]
      rfl
end

/-! ### NF -/

def Sub (ρ' ρ : Loc) : Prop := ∀ x d, ρ'.lookup x = some d → ρ.lookup x = some d
theorem Sub.nil {ρ : Loc} : Sub [] ρ := fun x d e => by cases e
theorem Sub.cons {ρ r : Loc} {x : String} {d : D} (h : ρ.lookup x = some d) (h2 : Sub r ρ) : Sub ((x, d) :: r) ρ := fun y e q => by
  rw [List.lookup_cons] at q
  by_cases c : y = x
  · subst c; rw [beq_self_eq_true] at q; cases q; exact h
  · rw [show (y == x) = false from beq_eq_false_iff_ne.mpr c] at q; exact h2 y e q
theorem EvT.weaken {Γ : Fc} {ρ ρ' μ e b} (h : EvT Γ ρ' μ e b) (hl : Sub ρ' ρ) : EvT Γ ρ μ e b := ⟨fun s Q E S k =>
  h.run s Q E (let ⟨m, cm, W⟩ := S; ⟨m, cm, W.weaken hl⟩) k⟩

noncomputable def lets (n : Nat) : Str := if h : n / 26 = 0 then letter (n % 26 : Nat) else lets (n / 26 - 1) ++ letter (n % 26 : Nat)
termination_by n
decreasing_by omega
theorem lets_one {n : Nat} (h : n / 26 = 0) : lets n = letter (n % 26 : Nat) := by rw [lets, dif_pos h]
theorem lets_more {n : Nat} (h : ¬ n / 26 = 0) : lets n = lets (n / 26 - 1) ++ letter (n % 26 : Nat) := by rw [lets, dif_neg h]
theorem lets_len : ∀ (j n : Nat), n < 26 ^ (j + 1) → (lets n).length ≤ j + 1
  | 0, n, h => by
    rw [lets_one (by omega)]
    exact Nat.le_refl 1
  | j + 1, n, h => by
    by_cases q : n / 26 = 0
    · rw [lets_one q]; exact Nat.le_add_left 1 _
    · rw [lets_more q, PySem.Str.length_append]
      have h1 : n / 26 - 1 < 26 ^ (j + 1) := by
        have : n / 26 < 26 ^ (j + 1) := (Nat.div_lt_iff_lt_mul (by decide)).mpr (by rw [← Nat.pow_succ]; exact h)
        omega
      have h2 := lets_len j (n / 26 - 1) h1
      have h3 : (letter ((n % 26 : Nat) : Int)).length = 1 := rfl
      omega
theorem app_assoc (x y z : Str) : x ++ y ++ z = x ++ (y ++ z) := by
  show Str.append (Str.append x y) z = Str.append x (Str.append y z)
  unfold Str.append
  simp [Array.append_assoc]
theorem lets_small (c : Int) (h0 : 0 ≤ c) (h1 : c < 702) : lets c.toNat = cn c := by
  unfold cn
  split
  · rw [lets_one (by omega)]
    congr 1; omega
  · rw [lets_more (by omega), lets_one (by omega)]
    congr 2 <;> omega
theorem Ln.lets {n : Nat} (h : n < 10 ^ 12) : Ln (Mine.lets n) 10 := lets_len 9 n (Nat.lt_of_lt_of_le h (by decide))

local macro_rules | `(tactic| walk_at "mv_call") => `(tactic| exact (unic_call _).le (Nat.le_of_ble_eq_true rfl))
section
set_option maxHeartbeats 2000000
theorem colname_call (c0 : Int) (hc0 : 0 ≤ c0) (hc1 : c0 < 10 ^ 12) : CallJ 2 (.ref 158) [.int c0] (.str (lets c0.toNat)) := by
  refine CallJ.fn (names := ["colx", "_A2Z"]) (dvs := [.str (Str.ofString "ABCDEFGHIJKLMNOPQRSTUVWXYZ") 505]) (dds := [.str (Str.ofString "ABCDEFGHIJKLMNOPQRSTUVWXYZ")]) (fun P => rfl) rfl (fun P => rfl) ?_ (fun _ _ => .cons (.str _ _) .nil) (by decide) (by decide) (by decide) ?_
  · intro w s vs hl hK
    match vs, hl with
    | [a], _ => exact binds_K (K := hd.heap_39 w.params) hK rfl (T := 151) rfl rfl rfl rfl
  · intro w mg mb A h₀ L F
    have len0 : (lets c0.toNat).length ≤ 10 := lets_len 9 _ (Nat.lt_of_lt_of_le (show c0.toNat < 10 ^ 12 by omega) (by decide))
    refine Ex.cons ?_
    refine' Ex1.assert ?q1 ?q2
    case q1 => exact EvT.eq (EvT.cmp (Ev.name (by rfl)) Ev.int CmpJ.ge) (decide_eq_true hc0)
    walk_at "mv_st"
    refine Ex.cons ?_
    refine' Ex1.while (fun k ρ μ => ∃ (c : Int) (nm : Str), 0 ≤ c ∧ c.toNat = k ∧ c < 10 ^ 12 ∧ lets c.toNat ++ nm = lets c0.toNat ∧ μ = [] ∧ Sub [("colx", .int c), ("name", .str nm), ("_A2Z", .str (Str.ofString "ABCDEFGHIJKLMNOPQRSTUVWXYZ"))] ρ) ?turn c0.toNat ?init
    case init => exact ⟨c0, Str.ofString "", hc0, rfl, hc1, by show Str.append _ _ = _; unfold Str.append; simp [show (Str.ofString "").cps = #[] from by decide +kernel], rfl, .cons rfl (.cons rfl (.cons rfl .nil))⟩
    case turn =>
      rintro k ρ μ ⟨c, nm, g0, g1, g2, g3, rfl, g5⟩
      refine ⟨true, ?a1, fun _ => ?a2, fun h => by cases h⟩
      case a1 => exact EvT.eq (EvT.of_value Ev.int TruJ.int) rfl
      case a2 =>
        have lnm : Ln nm 10 := by
          have := congrArg Str.length g3
          rw [PySem.Str.length_append] at this
          show nm.length ≤ 10
          omega
        refine Ex.weaken ?_ g5
        walk_at "mv_st"
        refine Ex.cons ?_
        refine' Ex1.assign ?b1 (.inl rfl) ?b2
        case b1 =>
          refine' Ev.bin ?c1 ?c2 (BinJ.addL Ln.letter lnm (by decide))
          case c1 =>
            refine' Ev.sub ?d1 ?d2 (SubJ.abc (i := c % 26) (by omega) (by omega))
            case d1 => walk_at "mv_ev"
            case d2 => walk_at "mv_ev"
          case c2 => walk_at "mv_ev"
        refine Ex.cons ?_
        refine' Ex1.ite ?e1 (fun h => ?e2) (fun h => ?e3)
        case e1 => walk_at "mv_t"
        case e2 =>
          have h : c / 26 = 0 := by walk_at "mv_norm"; omega
          walk_at "mv_st"
          refine congrArg D.str ?_
          rw [lets_one (show c.toNat / 26 = 0 by omega)] at g3
          rw [← g3]
          congr 2; omega
        case e3 =>
          have h : ¬ c / 26 = 0 := by walk_at "mv_norm"; omega
          refine Ex.nil ?_
          walk_at "mv_st"
          refine Ex.nil ?_
          refine ⟨(c / 26 - 1).toNat, by omega, c / 26 - 1, letter (c % 26) ++ nm, by omega, rfl, by omega, ?_, rfl, .cons rfl (.cons rfl (.cons rfl .nil))⟩
          rw [lets_more (show ¬ c.toNat / 26 = 0 by omega), app_assoc] at g3
          rw [← g3]
          congr 2
          · omega
          · congr 1; omega
end

/-! ### NG -/

theorem CmpJ.inOne {c : Nat} {x : Str} : CmpJ .In (.str ⟨#[c]⟩) (.str x) (decide (c ∈ x.cps.toList)) := CmpJ.ins.eq (StrLaws.found_one x c)
theorem mem_digits (c : Nat) : (c ∈ (Str.ofString "0123456789").cps.toList) ↔ (48 ≤ c ∧ c ≤ 57) := by
  have : (Str.ofString "0123456789").cps.toList = [48, 49, 50, 51, 52, 53, 54, 55, 56, 57] := by decide +kernel
  rw [this]; simp; omega
theorem mem_letters (c : Nat) : (c ∈ (Str.ofString "ABCDEFGHIJKLMNOPQRSTUVWXYZ").cps.toList) ↔ (65 ≤ c ∧ c ≤ 90) := by
  have : (Str.ofString "ABCDEFGHIJKLMNOPQRSTUVWXYZ").cps.toList = [65, 66, 67, 68, 69, 70, 71, 72, 73, 74, 75, 76, 77, 78, 79, 80, 81, 82, 83, 84, 85, 86, 87, 88, 89, 90] := by decide +kernel
  rw [this]; simp; omega
def dstep (v : Int) (c : Nat) : Int := (if 0 > v then 0 else v) * 10 + c - 48
def lstep (v : Int) (c : Nat) : Int := 26 * (v + 1) + c - 65
theorem EvT.and2 {Γ : Fc} {ρ μ e1 e2 pos} {b c : Bool} (h : EvT Γ ρ μ e1 b) (h2 : b = true → EvT Γ ρ μ e2 c) : EvT Γ ρ μ (.BoolOp .And [e1, e2] pos) (b && c) :=
  EvT.eq (EvT.boolop (EvAnd.and_cons h (c := c && true) fun q => EvAnd.and_cons (h2 q) fun _ => EvAnd.and_nil)) (by simp)
theorem get_drop {l ds rest : List Nat} {p c : Nat} (h : l.drop p = c :: ds ++ rest) : l[p]? = some c ∧ l.drop (p + 1) = ds ++ rest := by
  constructor
  · have := congrArg (fun x => x[0]?) h
    simpa using this
  · have := congrArg (fun x => x.drop 1) h
    simpa [List.drop_drop, Nat.add_comm] using this

section
set_option maxHeartbeats 2000000
theorem digits_call (t : Str) (p0 : Nat) (ds0 rest : List Nat) (hd : t.cps.toList.drop p0 = ds0 ++ rest) (ha : ∀ c ∈ ds0, 48 ≤ c ∧ c ≤ 57) (hr : ∀ c r, rest = c :: r → ¬ (48 ≤ c ∧ c ≤ 57)) (hl : t.length ≤ 1000) (hp : p0 ≤ 10000) :
    CallJ 1 (.ref 179) [.str t, .int p0] (.tup [.int (ds0.foldl dstep (-1)), .int ((p0 + ds0.length : Nat) : Int)]) := by
  refine CallJ.fn (names := ["text", "at"]) (dvs := []) (dds := []) (fun P => rfl) rfl (fun P => rfl) ?_ (fun _ _ => .nil) (by decide) (by decide) (by decide) ?_
  · intro w s vs hl hK
    match vs, hl with
    | [a, b], _ => exact BindsTo.of_eq rfl
  · intro w mg mb A h₀ L F
    have hlen : t.length = t.cps.toList.length := by simp [Str.length]
    walk_at "mv_st"
    refine Ex.cons ?_
    refine' Ex1.while (fun k ρ μ => ∃ (v : Int) (p : Nat) (ds : List Nat), ds.length = k ∧ t.cps.toList.drop p = ds ++ rest ∧ (∀ c ∈ ds, 48 ≤ c ∧ c ≤ 57) ∧ ds.foldl dstep v = ds0.foldl dstep (-1) ∧ p + ds.length = p0 + ds0.length ∧ μ = [] ∧ Sub [("text", .str t), ("at", .int p), ("value", .int v)] ρ) ?turn ds0.length ?init
    case init => exact ⟨-1, p0, ds0, rfl, hd, ha, rfl, rfl, rfl, .cons rfl (.cons rfl (.cons rfl .nil))⟩
    case turn =>
      rintro k ρ μ ⟨v, p, ds, rfl, g1, g2, g3, g4, rfl, g6⟩
      cases ds with
      | nil =>
        refine ⟨false, ?a1, fun h => (by cases h), fun _ => ?a3⟩
        case a1 =>
          refine EvT.weaken ?_ g6
          cases rest with
          | nil =>
            have : t.cps.toList.length ≤ p := by simpa using g1
            refine EvT.eq (EvT.and2 (b := false) (c := false) (EvT.eq (EvT.cmp (d1 := .int p) (d2 := .int t.length) (Ev.name (by rfl)) ?d2 CmpJ.lt) (decide_eq_false (by omega))) (fun h => by cases h)) rfl
            case d2 => walk_at "mv_ev"
          | cons c r =>
            obtain ⟨h1, h2⟩ := get_drop (ds := []) g1
            have hlt : p < t.cps.toList.length := by
              rcases Nat.lt_or_ge p t.cps.toList.length with q | q
              · exact q
              · rw [List.getElem?_eq_none q] at h1; cases h1
            refine EvT.eq (EvT.and2 (b := true) (c := false) (EvT.eq (EvT.cmp (d1 := .int p) (d2 := .int t.length) (Ev.name (by rfl)) ?e2 CmpJ.lt) (decide_eq_true (by omega))) (fun _ => EvT.eq (EvT.cmp ?e3 Ev.str CmpJ.inOne) (decide_eq_false fun m => hr c r rfl ((mem_digits c).mp m)))) rfl
            case e2 => walk_at "mv_ev"
            case e3 => exact Ev.sub (Ev.name (by rfl)) (Ev.name (d := .int p) (by rfl)) (SubJ.str (by omega) (by simpa using h1) (by omega))
        case a3 =>
          refine Ex.weaken ?_ g6
          walk_at "mv_st"
          have e1 : ds0.foldl dstep (-1) = v := g3.symm
          have e2 : p0 + ds0.length = p := by simpa using g4.symm
          rw [e1, e2]
      | cons c ds =>
        obtain ⟨h1, h2⟩ := get_drop g1
        have hlt : p < t.cps.toList.length := by
          rcases Nat.lt_or_ge p t.cps.toList.length with q | q
          · exact q
          · rw [List.getElem?_eq_none q] at h1; cases h1
        have hc := g2 c (.head _)
        refine ⟨true, ?b1, fun h => ?b2, fun h => by cases h⟩
        case b1 =>
          refine EvT.weaken ?_ g6
          refine EvT.eq (EvT.and2 (b := true) (c := true) (EvT.eq (EvT.cmp (d1 := .int p) (d2 := .int t.length) (Ev.name (by rfl)) ?e2 CmpJ.lt) (decide_eq_true (by omega))) (fun _ => EvT.eq (EvT.cmp ?e3 Ev.str CmpJ.inOne) (decide_eq_true ((mem_digits c).mpr hc)))) rfl
          case e2 => walk_at "mv_ev"
          case e3 => exact Ev.sub (Ev.name (by rfl)) (Ev.name (d := .int p) (by rfl)) (SubJ.str (by omega) (by simpa using h1) (by omega))
        case b2 =>
          refine Ex.weaken ?_ g6
          refine Ex.cons ?_
          refine' Ex1.assign (d := .int (dstep v c)) ?f1 (.inl rfl) ?f2
          case f1 =>
            refine' Ev.bin ?h1 Ev.int BinJ.sub
            refine' Ev.bin ?i1 ?i2 BinJ.add
            case i1 => exact Ev.bin (by walk_at "mv_ev") Ev.int (BinJ.mul (IntMulOk.of_right (by decide +kernel)))
            case i2 => exact Ev.callG (by walk_at "mv_glob") (by walk_at "mv_callee") (EvArgs.cons (EvA.of (Ev.sub (Ev.name (by rfl)) (Ev.name (d := .int p) (by rfl)) (SubJ.str (by omega) (by simpa using h1) (by omega)))) .nil) CallJ.ord (List.cons_ne_nil _ _)
          walk_at "mv_st"
          refine Ex.nil ?_
          refine ⟨ds.length, by simp, dstep v c, p + 1, ds, rfl, h2, fun c m => g2 c (.tail _ m), g3, by simpa [Nat.add_assoc, Nat.add_comm, Nat.add_left_comm] using g4, rfl, .cons rfl (.cons rfl (.cons rfl .nil))⟩
end

/-! ### NH -/
theorem Ev.iteT {Γ : Fc} {ρ μ t e1 e2 pos} {d : D} (h : EvT Γ ρ μ t true) (h1 : Ev Γ ρ μ e1 d) : Ev Γ ρ μ (.IfExp t e1 e2 pos) d := Ev.ite h (fun _ => h1) (fun h => by cases h)
theorem Ev.iteF {Γ : Fc} {ρ μ t e1 e2 pos} {d : D} (h : EvT Γ ρ μ t false) (h1 : Ev Γ ρ μ e2 d) : Ev Γ ρ μ (.IfExp t e1 e2 pos) d := Ev.ite h (fun h => by cases h) (fun _ => h1)
theorem Ev.iteI {Γ : Fc} {ρ μ t e1 e2 pos} {b : Bool} {i j : Int} (h : EvT Γ ρ μ t b) (h1 : Ev Γ ρ μ e1 (.int i)) (h2 : Ev Γ ρ μ e2 (.int j)) : Ev Γ ρ μ (.IfExp t e1 e2 pos) (.int (if b then i else j)) := by
  cases b
  · exact Ev.iteF h h2
  · exact Ev.iteT h h1
section
set_option maxHeartbeats 2000000
theorem letters_call (t : Str) (p0 : Nat) (ds0 rest : List Nat) (hd : t.cps.toList.drop p0 = ds0 ++ rest) (ha : ∀ c ∈ ds0, 65 ≤ c ∧ c ≤ 90) (hr : ∀ c r, rest = c :: r → ¬ (65 ≤ c ∧ c ≤ 90)) (hl : t.length ≤ 1000) (hp : p0 ≤ 10000) :
    CallJ 1 (.ref 186) [.str t, .int p0] (.tup [.int (ds0.foldl lstep (-1)), .int ((p0 + ds0.length : Nat) : Int)]) := by
  refine CallJ.fn (names := ["text", "at"]) (dvs := []) (dds := []) (fun P => rfl) rfl (fun P => rfl) ?_ (fun _ _ => .nil) (by decide) (by decide) (by decide) ?_
  · intro w s vs hl hK
    match vs, hl with
    | [a, b], _ => exact BindsTo.of_eq rfl
  · intro w mg mb A h₀ L F
    have hlen : t.length = t.cps.toList.length := by simp [Str.length]
    walk_at "mv_st"
    refine Ex.cons ?_
    refine' Ex1.while (fun k ρ μ => ∃ (v : Int) (p : Nat) (ds : List Nat), ds.length = k ∧ t.cps.toList.drop p = ds ++ rest ∧ (∀ c ∈ ds, 65 ≤ c ∧ c ≤ 90) ∧ ds.foldl lstep v = ds0.foldl lstep (-1) ∧ p + ds.length = p0 + ds0.length ∧ μ = [] ∧ Sub [("text", .str t), ("at", .int p), ("value", .int v)] ρ) ?turn ds0.length ?init
    case init => exact ⟨-1, p0, ds0, rfl, hd, ha, rfl, rfl, rfl, .cons rfl (.cons rfl (.cons rfl .nil))⟩
    case turn =>
      rintro k ρ μ ⟨v, p, ds, rfl, g1, g2, g3, g4, rfl, g6⟩
      cases ds with
      | nil =>
        refine ⟨false, ?a1, fun h => (by cases h), fun _ => ?a3⟩
        case a1 =>
          refine EvT.weaken ?_ g6
          cases rest with
          | nil =>
            have : t.cps.toList.length ≤ p := by simpa using g1
            refine EvT.eq (EvT.and2 (b := false) (c := false) (EvT.eq (EvT.cmp (d1 := .int p) (d2 := .int t.length) (Ev.name (by rfl)) ?d2 CmpJ.lt) (decide_eq_false (by omega))) (fun h => by cases h)) rfl
            case d2 => walk_at "mv_ev"
          | cons c r =>
            obtain ⟨h1, h2⟩ := get_drop (ds := []) g1
            have hlt : p < t.cps.toList.length := by
              rcases Nat.lt_or_ge p t.cps.toList.length with q | q
              · exact q
              · rw [List.getElem?_eq_none q] at h1; cases h1
            refine EvT.eq (EvT.and2 (b := true) (c := false) (EvT.eq (EvT.cmp (d1 := .int p) (d2 := .int t.length) (Ev.name (by rfl)) ?e2 CmpJ.lt) (decide_eq_true (by omega))) (fun _ => EvT.eq (EvT.cmp ?e3 Ev.str CmpJ.inOne) (decide_eq_false fun m => hr c r rfl ((mem_letters c).mp m)))) rfl
            case e2 => walk_at "mv_ev"
            case e3 => exact Ev.sub (Ev.name (by rfl)) (Ev.name (d := .int p) (by rfl)) (SubJ.str (by omega) (by simpa using h1) (by omega))
        case a3 =>
          refine Ex.weaken ?_ g6
          walk_at "mv_st"
          have e1 : ds0.foldl lstep (-1) = v := g3.symm
          have e2 : p0 + ds0.length = p := by simpa using g4.symm
          rw [e1, e2]
      | cons c ds =>
        obtain ⟨h1, h2⟩ := get_drop g1
        have hlt : p < t.cps.toList.length := by
          rcases Nat.lt_or_ge p t.cps.toList.length with q | q
          · exact q
          · rw [List.getElem?_eq_none q] at h1; cases h1
        have hc := g2 c (.head _)
        refine ⟨true, ?b1, fun h => ?b2, fun h => by cases h⟩
        case b1 =>
          refine EvT.weaken ?_ g6
          refine EvT.eq (EvT.and2 (b := true) (c := true) (EvT.eq (EvT.cmp (d1 := .int p) (d2 := .int t.length) (Ev.name (by rfl)) ?e2 CmpJ.lt) (decide_eq_true (by omega))) (fun _ => EvT.eq (EvT.cmp ?e3 Ev.str CmpJ.inOne) (decide_eq_true ((mem_letters c).mpr hc)))) rfl
          case e2 => walk_at "mv_ev"
          case e3 => exact Ev.sub (Ev.name (by rfl)) (Ev.name (d := .int p) (by rfl)) (SubJ.str (by omega) (by simpa using h1) (by omega))
        case b2 =>
          refine Ex.weaken ?_ g6
          refine Ex.cons ?_
          refine' Ex1.assign (d := .int (lstep v c)) ?f1 (.inl rfl) ?f2
          case f1 =>
            refine' Ev.bin ?h1 Ev.int BinJ.sub
            refine' Ev.bin ?i1 ?i2 BinJ.add
            case i1 => exact Ev.bin Ev.int (Ev.bin (Ev.name (by rfl)) Ev.int BinJ.add) (BinJ.mul (IntMulOk.of_left (by decide +kernel)))
            case i2 => exact Ev.callG (by walk_at "mv_glob") (by walk_at "mv_callee") (EvArgs.cons (EvA.of (Ev.sub (Ev.name (by rfl)) (Ev.name (d := .int p) (by rfl)) (SubJ.str (by omega) (by simpa using h1) (by omega)))) .nil) CallJ.ord (List.cons_ne_nil _ _)
          walk_at "mv_st"
          refine Ex.nil ?_
          refine ⟨ds.length, by simp, lstep v c, p + 1, ds, rfl, h2, fun c m => g2 c (.tail _ m), g3, by simpa [Nat.add_assoc, Nat.add_comm, Nat.add_left_comm] using g4, rfl, .cons rfl (.cons rfl (.cons rfl .nil))⟩

def isDig (c : Nat) : Bool := decide (48 ≤ c ∧ c ≤ 57)
def isLet (c : Nat) : Bool := decide (65 ≤ c ∧ c ≤ 90)
def digV (t : Str) (p : Nat) : Int := ((t.cps.toList.drop p).takeWhile isDig).foldl dstep (-1)
def digE (t : Str) (p : Nat) : Nat := p + ((t.cps.toList.drop p).takeWhile isDig).length
def letV (t : Str) (p : Nat) : Int := ((t.cps.toList.drop p).takeWhile isLet).foldl lstep (-1)
def letE (t : Str) (p : Nat) : Nat := p + ((t.cps.toList.drop p).takeWhile isLet).length
theorem tw_all {q : Nat → Bool} : ∀ (l : List Nat), ∀ c ∈ l.takeWhile q, q c = true
  | [], _, m => nomatch m
  | x :: r, c, m => by
    rw [List.takeWhile_cons] at m
    split at m
    · rename_i h
      rcases List.mem_cons.mp m with rfl | m
      · exact h
      · exact tw_all r c m
    · cases m
theorem dw_head {q : Nat → Bool} : ∀ (l : List Nat) (c : Nat) (r : List Nat), l.dropWhile q = c :: r → q c = false
  | [], c, r, h => nomatch h
  | x :: l, c, r, h => by
    rw [List.dropWhile_cons] at h
    split at h
    · exact dw_head l c r h
    · rename_i hx
      cases h; simpa using hx
theorem digE_le (t : Str) (p : Nat) (hp : p ≤ t.length) : p ≤ digE t p ∧ digE t p ≤ t.length := by
  have hlen : t.length = t.cps.toList.length := by simp [Str.length]
  have h1 := (List.takeWhile_prefix (l := t.cps.toList.drop p) isDig).length_le
  rw [List.length_drop] at h1
  unfold digE; omega
theorem digits_callF (t : Str) (p : Nat) (hl : t.length ≤ 1000) (hp : p ≤ 10000) : CallJ 1 (.ref 179) [.str t, .int p] (.tup [.int (digV t p), .int (digE t p)]) :=
  digits_call t p _ ((t.cps.toList.drop p).dropWhile isDig) (List.takeWhile_append_dropWhile).symm (fun c m => of_decide_eq_true (tw_all _ c m)) (fun c r h => of_decide_eq_false (dw_head _ c r h)) hl hp
theorem letters_callF (t : Str) (p : Nat) (hl : t.length ≤ 1000) (hp : p ≤ 10000) : CallJ 1 (.ref 186) [.str t, .int p] (.tup [.int (letV t p), .int (letE t p)]) :=
  letters_call t p _ ((t.cps.toList.drop p).dropWhile isLet) (List.takeWhile_append_dropWhile).symm (fun c m => of_decide_eq_true (tw_all _ c m)) (fun c r h => of_decide_eq_false (dw_head _ c r h)) hl hp
end

/-! ### NI -/
local macro_rules | `(tactic| walk_at "mv_ev") => `(tactic| first
  | (refine' Ev.cut0 ?h1 ?h2 ?h3 ?h4; (case h1 => walk_at "mv_ev"); (case h2 => walk_at "mv_ev"); (case h3 => omega); (case h4 => omega))
  | (refine' Ev.cutS ?h1 ?h2 ?h3 ?h4 ?h5 ?h6; (case h1 => walk_at "mv_ev"); (case h2 => walk_at "mv_ev"); (case h3 => walk_at "mv_ev"); (case h4 => omega); (case h5 => omega); (case h6 => omega))
  | (refine' Ev.iteT ?h1 ?h2; (case h1 => walk_at "mv_t"); (case h2 => walk_at "mv_ev"))
  | (refine' Ev.iteF ?h1 ?h2; (case h1 => walk_at "mv_t"); (case h2 => walk_at "mv_ev")))
local macro_rules | `(tactic| walk_at "mv_call") => `(tactic| first
  | exact (digits_callF _ _ (by omega) (by omega)).le (Nat.le_of_ble_eq_true rfl)
  | exact (letters_callF _ _ (by omega) (by omega)).le (Nat.le_of_ble_eq_true rfl))

def S1 (t : Str) (p : Nat) (c : String) : Bool := Mine.cut t (p : Int) (((p + 1 : Nat)) : Int) == Str.ofString c
def plainE (t : Str) (f n : Bool) (a1 : Nat) (cv : Int) : PyData :=
  if digE t (if n then a1 + 1 else a1) ≠ t.length then .none else .tuple [.int (digV t (if n then a1 + 1 else a1) - 1), .int cv, .int (if n then 0 else 1), .int (if f then 0 else 1)]
def plainF (t : Str) : PyData := plainE t (S1 t 0 "$") (S1 t (letE t (if S1 t 0 "$" then 1 else 0)) "$") (letE t (if S1 t 0 "$" then 1 else 0)) (letV t (if S1 t 0 "$" then 1 else 0))
theorem letE_le (t : Str) (p : Nat) : letE t p ≤ p + t.length := by
  have hlen : t.length = t.cps.toList.length := by simp [Str.length]
  have h1 := (List.takeWhile_prefix (l := t.cps.toList.drop p) isLet).length_le
  rw [List.length_drop] at h1
  unfold letE; omega
theorem digE_le2 (t : Str) (p : Nat) : digE t p ≤ p + t.length := by
  have hlen : t.length = t.cps.toList.length := by simp [Str.length]
  have h1 := (List.takeWhile_prefix (l := t.cps.toList.drop p) isDig).length_le
  rw [List.length_drop] at h1
  unfold digE; omega
section
set_option maxHeartbeats 2000000
theorem plain_call (t : Str) (hl : t.length ≤ 1000) : CallJ 2 (.ref 193) [.str t] (.py (plainF t)) := by
  refine CallJ.fn (names := ["text"]) (dvs := []) (dds := []) (fun P => rfl) rfl (fun P => rfl) ?_ (fun _ _ => .nil) (by decide) (by decide) (by decide) ?_
  · intro w s vs hl hK
    match vs, hl with
    | [a], _ => exact BindsTo.of_eq rfl
  · intro w mg mb A h₀ L F
    unfold plainF
    generalize hf : S1 t 0 "$" = f
    have h1 := letE_le t (if f then 1 else 0)
    have h1' : letE t (if f then 1 else 0) ≤ 1001 := by
      cases f <;> simp only [if_true, Bool.false_eq_true, if_false] at h1 ⊢ <;> omega
    refine Ex.cons ?_
    refine' Ex1.assign (d := .bool f) ?a1 (.inl rfl) ?a2
    case a1 =>
      refine' Ev.eq (Ev.cmp ?b1 Ev.str CmpJ.seq) (congrArg D.bool hf)
      case b1 => exact Ev.cut0 (Ev.name (by rfl)) Ev.int (by omega) (by omega)
    refine Ex.cons ?_
    refine' Ex1.unpack (ds := [.int (letV t (if f then 1 else 0)), .int (letE t (if f then 1 else 0))]) ?c1 (.cons (Asg.name (.inl rfl)) (fun _ => rfl) (.cons (Asg.name (.inl rfl)) (fun _ => rfl) .nil)) ?c2
    case c1 =>
      refine' Ev.callG ?d1 ?d2 (.cons (EvA.of ?d3) (.cons (EvA.of ?d4) .nil)) ((letters_callF t (if f then 1 else 0) (by omega) (by split <;> omega)).le (Nat.le_of_ble_eq_true rfl)) (List.cons_ne_nil _ _)
      case d1 => walk_at "mv_glob"
      case d2 => walk_at "mv_callee"
      case d3 => walk_at "mv_ev"
      case d4 =>
        refine' Ev.eq (Ev.iteI (b := f) (EvT.of_value (Ev.name (by rfl)) TruJ.bool) Ev.int Ev.int) ?_
        cases f <;> rfl
    generalize letE t (if f = true then 1 else 0) = a1 at h1' ⊢
    generalize letV t (if f = true then 1 else 0) = cv
    unfold plainE
    generalize hn : S1 t a1 "$" = n
    refine Ex.cons ?_
    refine' Ex1.assign (d := .bool n) ?e1 (.inl rfl) ?e2
    case e1 =>
      refine' Ev.eq (Ev.cmp ?f1 Ev.str CmpJ.seq) (congrArg D.bool hn)
      case f1 => exact Ev.cutS (Ev.name (by rfl)) (Ev.name (d := .int a1) (by rfl)) (Ev.bin (Ev.name (d := .int a1) (by rfl)) Ev.int BinJ.add) (by omega) (by omega) (by omega)
    refine Ex.cons ?_
    refine' Ex1.unpack (ds := [.int (digV t (if n then a1 + 1 else a1)), .int (digE t (if n then a1 + 1 else a1))]) ?g1 (.cons (Asg.name (.inl rfl)) (fun _ => rfl) (.cons (Asg.name (.inl rfl)) (fun _ => rfl) .nil)) ?g2
    case g1 =>
      refine' Ev.callG ?i1 ?i2 (.cons (EvA.of ?i3) (.cons (EvA.of ?i4) .nil)) ((digits_callF t (if n then a1 + 1 else a1) (by omega) (by split <;> omega)).le (Nat.le_of_ble_eq_true rfl)) (List.cons_ne_nil _ _)
      case i1 => walk_at "mv_glob"
      case i2 => walk_at "mv_callee"
      case i3 => walk_at "mv_ev"
      case i4 =>
        refine' Ev.eq (Ev.iteI (b := n) (EvT.of_value (Ev.name (by rfl)) TruJ.bool) (Ev.bin (Ev.name (d := .int a1) (by rfl)) Ev.int BinJ.add) (Ev.name (d := .int a1) (by rfl))) ?_
        cases n <;> rfl
    generalize digE t (if n = true then a1 + 1 else a1) = a2
    generalize digV t (if n = true then a1 + 1 else a1) = rv
    refine Ex.cons ?_
    refine' Ex1.ite ?j1 (fun h => ?j2) (fun h => ?j3)
    case j1 => walk_at "mv_t"
    case j2 =>
      have h : (a2 : Int) ≠ t.length := of_decide_eq_true h
      rw [if_pos (by omega)]
      walk_at "mv_st"
      rfl
    case j3 =>
      have h : ¬ (a2 : Int) ≠ t.length := of_decide_eq_false h
      rw [if_neg (by omega)]
      walk_at "mv_st"
      refine Ex.cons ?_
      refine' Ex1.ret ?k1 rfl (.tup (plains_cons (.int _) (plains_cons (.int _) (plains_cons (.int _) (plains_cons (.int _) plains_nil)))))
      refine' Ev.tuple (.cons (Ev.bin (Ev.name (by rfl)) Ev.int BinJ.sub) (.cons (Ev.name (by rfl)) (.cons ?l1 (.cons ?l2 .nil)))) (Nat.le_of_ble_eq_true rfl)
      case l1 => exact Ev.iteI (EvT.of_value (Ev.name (by rfl)) TruJ.bool) Ev.int Ev.int
      case l2 => exact Ev.iteI (EvT.of_value (Ev.name (by rfl)) TruJ.bool) Ev.int Ev.int
end

/-! ### NJ -/
def tup3 (a b : Int) (c : Nat) : D := .tup [.int a, .int b, .int c]
structure P3 where
  v : Int
  l : Int
  e : Nat
def P3.d (x : P3) : D := tup3 x.v x.l x.e
def partF (t : Str) (p : Nat) (l : String) : P3 :=
  if S1 t p l = false then ⟨0, 0, t.length + 1⟩ else
  if 0 ≤ digV t (p + 1) then ⟨digV t (p + 1) - 1, 0, digE t (p + 1)⟩ else
  if S1 t (p + 1) "[" = false then ⟨0, 1, p + 1⟩ else
  if digV t (if S1 t (p + 2) "-" then p + 3 else p + 2) < 0 ∨ S1 t (digE t (if S1 t (p + 2) "-" then p + 3 else p + 2)) "]" = false then ⟨0, 0, t.length + 1⟩ else
  ⟨if S1 t (p + 2) "-" then -digV t (if S1 t (p + 2) "-" then p + 3 else p + 2) else digV t (if S1 t (p + 2) "-" then p + 3 else p + 2), 1, digE t (if S1 t (p + 2) "-" then p + 3 else p + 2) + 1⟩
theorem EvT.or2 {Γ : Fc} {ρ μ e1 e2 pos} {b c : Bool} (h : EvT Γ ρ μ e1 b) (h2 : EvT Γ ρ μ e2 c) : EvT Γ ρ μ (.BoolOp .Or [e1, e2] pos) (b || c) :=
  EvT.eq (EvT.boolop (EvAnd.or_cons h (c := c || false) fun q => EvAnd.or_cons h2 fun _ => EvAnd.or_nil)) (by simp)
section
set_option maxHeartbeats 2000000
theorem part_call (t : Str) (p : Nat) (l : String) (hl : t.length ≤ 1000) (hp : p ≤ 2000) : CallJ 2 (.ref 200) [.str t, .int p, .str (Str.ofString l)] (partF t p l).d := by
  refine CallJ.fn (names := ["text", "at", "letter"]) (dvs := []) (dds := []) (fun P => rfl) rfl (fun P => rfl) ?_ (fun _ _ => .nil) (by decide) (by decide) (by decide) ?_
  · intro w s vs hl hK
    match vs, hl with
    | [a, b, c], _ => exact BindsTo.of_eq rfl
  · intro w mg mb A h₀ L F
    unfold partF
    generalize hf : S1 t p l = f
    refine Ex.cons ?_
    refine' Ex1.ite (b := !f) ?a1 (fun h => ?a2) (fun h => ?a3)
    case a1 =>
      refine' EvT.eq (EvT.cmp (Ev.cutS (Ev.name (by rfl)) (Ev.name (d := .int p) (by rfl)) (Ev.bin (Ev.name (d := .int p) (by rfl)) Ev.int BinJ.add) (by omega) (by omega) (by omega)) (Ev.name (by rfl)) CmpJ.sne) (congrArg (fun b => !b) hf)
    case a2 =>
      have h : f = false := by simpa using h
      rw [if_pos h]
      walk_at "mv_st"
      rfl
    case a3 =>
      have h : f = true := by simpa using h
      subst h
      rw [if_neg (by decide)]
      refine Ex.nil ?_
      refine Ex.cons ?_
      refine' Ex1.unpack (ds := [.int (digV t (p + 1)), .int (digE t (p + 1))]) ?c1 (.cons (Asg.name (.inl rfl)) (fun _ => rfl) (.cons (Asg.name (.inl rfl)) (fun _ => rfl) .nil)) ?c2
      case c1 =>
        refine' Ev.callG ?d1 ?d2 (.cons (EvA.of ?d3) (.cons (EvA.of (Ev.bin (Ev.name (d := .int p) (by rfl)) Ev.int BinJ.add)) .nil)) ((digits_callF t (p + 1) (by omega) (by omega)).le (Nat.le_of_ble_eq_true rfl)) (List.cons_ne_nil _ _)
        case d1 => walk_at "mv_glob"
        case d2 => walk_at "mv_callee"
        case d3 => walk_at "mv_ev"
      refine Ex.cons ?_
      refine' Ex1.ite ?e1 (fun h => ?e2) (fun h => ?e3)
      case e1 => walk_at "mv_t"
      case e2 =>
        rw [if_pos (of_decide_eq_true h)]
        walk_at "mv_st"
        rfl
      case e3 =>
        rw [if_neg (of_decide_eq_false h)]
        refine Ex.nil ?_
        generalize hg : S1 t (p + 1) "[" = g
        refine Ex.cons ?_
        refine' Ex1.ite (b := !g) ?f1 (fun h => ?f2) (fun h => ?f3)
        case f1 =>
          refine' EvT.eq (EvT.cmp (Ev.cutS (Ev.name (by rfl)) (Ev.bin (Ev.name (d := .int p) (by rfl)) Ev.int BinJ.add) (Ev.bin (Ev.name (d := .int p) (by rfl)) Ev.int BinJ.add) (by omega) (by omega) (by omega)) Ev.str CmpJ.sne) (congrArg (fun b => !b) hg)
        case f2 =>
          have h : g = false := by simpa using h
          rw [if_pos h]
          walk_at "mv_st"
          rfl
        case f3 =>
          have h : g = true := by simpa using h
          subst h
          rw [if_neg (by decide)]
          refine Ex.nil ?_
          generalize hm : S1 t (p + 2) "-" = m
          have hq : (if m then p + 3 else p + 2) ≤ p + 3 := by split <;> omega
          have hq2 : (if m = true then ((p : Int) + 3) else ((p : Int) + 2)) = ((if m = true then p + 3 else p + 2 : Nat) : Int) := by cases m <;> rfl
          refine Ex.cons ?_
          refine' Ex1.assign (d := .bool m) ?g1 (.inl rfl) ?g2
          case g1 => exact Ev.eq (Ev.cmp (Ev.cutS (Ev.name (by rfl)) (Ev.bin (Ev.name (d := .int p) (by rfl)) Ev.int BinJ.add) (Ev.bin (Ev.name (d := .int p) (by rfl)) Ev.int BinJ.add) (by omega) (by omega) (by omega)) Ev.str CmpJ.seq) (congrArg D.bool hm)
          generalize (if m = true then p + 3 else p + 2) = q at hq hq2 ⊢
          have hqe := digE_le2 t q
          refine Ex.cons ?_
          refine' Ex1.unpack (ds := [.int (digV t q), .int (digE t q)]) ?i1 (.cons (Asg.name (.inl rfl)) (fun _ => rfl) (.cons (Asg.name (.inl rfl)) (fun _ => rfl) .nil)) ?i2
          case i1 =>
            refine' Ev.callG ?j1 ?j2 (.cons (EvA.of ?j3) (.cons (EvA.of (Ev.eq (Ev.iteI (b := m) (EvT.of_value (Ev.name (by rfl)) TruJ.bool) (Ev.bin (Ev.name (d := .int p) (by rfl)) Ev.int BinJ.add) (Ev.bin (Ev.name (d := .int p) (by rfl)) Ev.int BinJ.add)) (congrArg D.int hq2))) .nil)) ((digits_callF t q (by omega) (by omega)).le (Nat.le_of_ble_eq_true rfl)) (List.cons_ne_nil _ _)
            case j1 => walk_at "mv_glob"
            case j2 => walk_at "mv_callee"
            case j3 => walk_at "mv_ev"
          generalize digV t q = v
          generalize digE t q = e at hqe ⊢
          generalize hk : S1 t e "]" = k
          refine Ex.cons ?_
          refine' Ex1.ite (b := decide (v < 0) || !k) ?k1 (fun h => ?k2) (fun h => ?k3)
          case k1 =>
            refine' EvT.or2 (EvT.cmp (Ev.name (by rfl)) Ev.int CmpJ.lt) (EvT.eq (EvT.cmp (Ev.cutS (Ev.name (by rfl)) (Ev.name (d := .int e) (by rfl)) (Ev.bin (Ev.name (d := .int e) (by rfl)) Ev.int BinJ.add) (by omega) (by omega) (by omega)) Ev.str CmpJ.sne) (congrArg (fun b => !b) hk))
          case k2 =>
            have h : v < 0 ∨ k = false := by simpa using h
            rw [if_pos h]
            walk_at "mv_st"
            rfl
          case k3 =>
            have h : ¬ (v < 0 ∨ k = false) := by simpa using h
            rw [if_neg h]
            refine Ex.nil ?_
            refine Ex.cons ?_
            refine' Ex1.ret ?l1 rfl (.tup (plains_cons (.int _) (plains_cons (.int _) (plains_cons (.int _) plains_nil))))
            refine' Ev.tuple (.cons ?m1 (.cons Ev.int (.cons (Ev.bin (Ev.name (d := .int e) (by rfl)) Ev.int BinJ.add) .nil))) (Nat.le_of_ble_eq_true rfl)
            case m1 => exact Ev.iteI (EvT.of_value (Ev.name (by rfl)) TruJ.bool) (Ev.neg (Ev.name (by rfl))) (Ev.name (by rfl))
end

/-! ### NK -/
theorem partF_le (t : Str) (p : Nat) (l : String) : (partF t p l).e ≤ p + t.length + 4 := by
  unfold partF
  have h1 := digE_le2 t (p + 1)
  have h2 := digE_le2 t (p + 2)
  have h3 := digE_le2 t (p + 3)
  cases S1 t (p + 2) "-" <;> (simp only [if_true, Bool.false_eq_true, if_false]; (repeat' split) <;> simp only [] <;> omega)
def roundE (t : Str) (b0 b1 r : Int) (x y : P3) : PyData :=
  if y.e ≠ t.length then .none else .tuple [.int (if x.l = 1 then (b0 + x.v) % r else x.v), .int (if y.l = 1 then (b1 + y.v) % 256 else y.v), .int x.l, .int y.l]
def roundF (t : Str) (b0 b1 r : Int) : PyData := roundE t b0 b1 r (partF t 0 "R") (partF t (partF t 0 "R").e "C")
theorem Ev.iteP {Γ : Fc} {ρ μ t e1 e2 pos} {p : Prop} [Decidable p] {i j : Int} (h : EvT Γ ρ μ t (decide p)) (h1 : Ev Γ ρ μ e1 (.int i)) (h2 : Ev Γ ρ μ e2 (.int j)) : Ev Γ ρ μ (.IfExp t e1 e2 pos) (.int (if p then i else j)) := by
  by_cases q : p
  · rw [if_pos q]; rw [decide_eq_true q] at h; exact Ev.iteT h h1
  · rw [if_neg q]; rw [decide_eq_false q] at h; exact Ev.iteF h h2
section
set_option maxHeartbeats 2000000
theorem round_call (t : Str) (b0 b1 r : Int) (hl : t.length ≤ 1000) (hr : 0 < r) : CallJ 3 (.ref 207) [.str t, .tup [.int b0, .int b1], .int r] (.py (roundF t b0 b1 r)) := by
  refine CallJ.fn (names := ["text", "base", "reach"]) (dvs := []) (dds := []) (fun P => rfl) rfl (fun P => rfl) ?_ (fun _ _ => .nil) (by decide) (by decide) (by decide) ?_
  · intro w s vs hl hK
    match vs, hl with
    | [a, b, c], _ => exact BindsTo.of_eq rfl
  · intro w mg mb A h₀ L F
    unfold roundF
    have h1 := partF_le t 0 "R"
    have c1 := part_call t 0 "R" hl (by omega)
    have c2 := part_call t (partF t 0 "R").e "C" hl (by omega)
    generalize partF t 0 "R" = x at *
    generalize partF t x.e "C" = y at *
    obtain ⟨xv, xl, xe⟩ := x
    obtain ⟨yv, yl, ye⟩ := y
    simp only [P3.d, tup3] at c1 c2 h1
    unfold roundE
    simp only []
    refine Ex.cons ?_
    refine' Ex1.unpack (ds := [.int xv, .int xl, .int xe]) ?a1 (.cons (Asg.name (.inl rfl)) (fun _ => rfl) (.cons (Asg.name (.inl rfl)) (fun _ => rfl) (.cons (Asg.name (.inl rfl)) (fun _ => rfl) .nil))) ?a2
    case a1 =>
      refine' Ev.callG ?d1 ?d2 (.cons (EvA.of (Ev.name (by rfl))) (.cons (EvA.of Ev.int) (.cons (EvA.of Ev.str) .nil))) c1 (List.cons_ne_nil _ _)
      case d1 => walk_at "mv_glob"
      case d2 => walk_at "mv_callee"
    refine Ex.cons ?_
    refine' Ex1.unpack (ds := [.int yv, .int yl, .int ye]) ?e1 (.cons (Asg.name (.inl rfl)) (fun _ => rfl) (.cons (Asg.name (.inl rfl)) (fun _ => rfl) (.cons (Asg.name (.inl rfl)) (fun _ => rfl) .nil))) ?e2
    case e1 =>
      refine' Ev.callG ?f1 ?f2 (.cons (EvA.of (Ev.name (by rfl))) (.cons (EvA.of (Ev.name (by rfl))) (.cons (EvA.of Ev.str) .nil))) c2 (List.cons_ne_nil _ _)
      case f1 => walk_at "mv_glob"
      case f2 => walk_at "mv_callee"
    refine Ex.cons ?_
    refine' Ex1.ite ?j1 (fun h => ?j2) (fun h => ?j3)
    case j1 => walk_at "mv_t"
    case j2 =>
      have h : (ye : Int) ≠ t.length := of_decide_eq_true h
      rw [if_pos (by omega)]
      walk_at "mv_st"
      rfl
    case j3 =>
      have h : ¬ (ye : Int) ≠ t.length := of_decide_eq_false h
      rw [if_neg (by omega)]
      walk_at "mv_st"
      refine Ex.cons ?_
      refine' Ex1.ret ?k1 rfl (.tup (plains_cons (.int _) (plains_cons (.int _) (plains_cons (.int _) (plains_cons (.int _) plains_nil)))))
      refine' Ev.tuple (.cons ?l1 (.cons ?l2 (.cons (Ev.name (by rfl)) (.cons (Ev.name (by rfl)) .nil)))) (Nat.le_of_ble_eq_true rfl)
      case l1 => exact Ev.iteP (EvT.cmp (Ev.name (by rfl)) Ev.int CmpJ.ieq) (Ev.bin (Ev.bin (Ev.sub (Ev.name (by rfl)) Ev.int (SubJ.tup (by decide) (by rfl))) (Ev.name (by rfl)) BinJ.add) (Ev.name (by rfl)) (BinJ.emod hr)) (Ev.name (by rfl))
      case l2 => exact Ev.iteP (EvT.cmp (Ev.name (by rfl)) Ev.int CmpJ.ieq) (Ev.bin (Ev.bin (Ev.sub (Ev.name (by rfl)) Ev.int (SubJ.tup (by decide) (by rfl))) (Ev.name (by rfl)) BinJ.add) Ev.int (BinJ.emod (by decide))) (Ev.name (by rfl))

theorem Ln.shown {v l : Int} {f : Str} (h1 : -(10 ^ 9) < v) (h2 : v < 10 ^ 9) (hf : Ln f 40) : Ln (Mine.shown v l f) 50 := by
  unfold Mine.shown
  split
  · exact Ln.up (Ln.app (Ln.app (Ln.app Ln.lit (m := 1) (by split <;> exact Ln.lit)) (m := 11) (by split <;> exact Ln.dec (by omega) (by omega))) Ln.lit) (by decide)
  · exact Ln.up (Ln.app Ln.lit hf) (by decide)
theorem display_call (r c rr cr : Int) (hrr : rr = 0 ∨ rr = 1) (hcr : cr = 0 ∨ cr = 1) (h1 : rr = 0 → 0 ≤ r) (h2 : -(10 ^ 8) < r) (h3 : r < 10 ^ 8) (h4 : cr = 0 → 0 ≤ c) (h5 : -(10 ^ 8) < c) (h6 : c < 10 ^ 8) :
    CallJ 3 (.ref 165) [.int r, .int c, .int rr, .int cr] (.str (shown c cr (lets c.toNat) ++ shown r rr (dec (r + 1)))) := by
  refine CallJ.fn (names := ["rowx", "colx", "relrow", "relcol"]) (dvs := []) (dds := []) (fun P => rfl) rfl (fun P => rfl) ?_ (fun _ _ => .nil) (by decide) (by decide) (by decide) ?_
  · intro w s vs hl hK
    match vs, hl with
    | [a, b, c, d], _ => exact BindsTo.of_eq rfl
  · intro w mg mb A h₀ L F
    have lr : Ln (shown r rr (dec (r + 1))) 50 := Ln.shown (by omega) (by omega) ((Ln.dec (by omega) (by omega)).up (by decide))
    have lc : Ln (shown c cr (lets c.toNat)) 50 := Ln.shown (by omega) (by omega) ((Ln.lets (by omega)).up (by decide))
    have er : rr = 1 → ∀ b : Bool, b = decide (r < 0) → Str.ofString "(*" ++ Str.ofString (if b then "-" else "+") ++ dec (if r < 0 then -r else r) ++ Str.ofString ")" = shown r rr (dec (r + 1)) := fun e b hb => by
      subst hb; unfold shown; rw [if_pos e]; simp
    have ec : cr = 1 → ∀ b : Bool, b = decide (c < 0) → Str.ofString "(*" ++ Str.ofString (if b then "-" else "+") ++ dec (if c < 0 then -c else c) ++ Str.ofString ")" = shown c cr (lets c.toNat) := fun e b hb => by
      subst hb; unfold shown; rw [if_pos e]; simp
    have ln : ∀ b : Bool, (Str.ofString (if b then "-" else "+")).length ≤ 1000000 := by intro b; cases b <;> decide +kernel
    have g0 : ∀ v : Int, 0 ≤ (if v < 0 then -v else v) := fun v => by split <;> omega
    have g1 : (if r < 0 then -r else r) < 10 ^ 10 := by split <;> omega
    have g2 : (if c < 0 then -c else c) < 10 ^ 10 := by split <;> omega
    have er0 : rr = 0 → Str.ofString "$" ++ dec (r + 1) = shown r rr (dec (r + 1)) := fun e => by subst e; rfl
    have ec0 : cr = 0 → Str.ofString "$" ++ lets c.toNat = shown c cr (lets c.toNat) := fun e => by subst e; rfl
    have lc0 : cr = 0 → Ln (lets c.toNat) 10 := fun e => Ln.lets (by omega)
    have cc0 : cr = 0 → CallJ 2 (.ref 158) [.int c] (.str (lets c.toNat)) := fun e => colname_call c (h4 e) (by omega)
    refine Ex.cons ?_
    refine' Ex1.mono (N := fun ρ' μ' => μ' = [] ∧ Sub [("colx", .int c), ("relcol", .int cr), ("rowpart", .str (shown r rr (dec (r + 1))))] ρ') (Ex1.ite (b := decide (rr ≠ 0)) ?a1 (fun h => ?a2) (fun h => ?a3)) ?a4
    case a1 => walk_at "mv_t"
    case a2 =>
      have h : rr = 1 := by have := of_decide_eq_true h; omega
      refine Ex.cons ?_
      refine' Ex1.assign (d := .str (shown r rr (dec (r + 1)))) ?b1 (.inl rfl) ?b2
      case b1 =>
        refine' Ev.eq (Ev.bin Ev.str (Ev.tuple (.cons (Ev.sub Ev.str (Ev.cmp (Ev.name (by rfl)) Ev.int CmpJ.lt) SubJ.pm) (.cons (Ev.callG ?c1 ?c2 ?c3 CallJ.abs (List.cons_ne_nil _ _)) .nil)) (Nat.le_of_ble_eq_true rfl)) (fmt_star (ln _) (g0 r) g1)) (congrArg D.str (er h _ rfl))
        case c1 => walk_at "mv_glob"
        case c2 => walk_at "mv_callee"
        case c3 => walk_at "mv_args"
      exact Ex.nil ⟨rfl, .cons rfl (.cons rfl (.cons rfl .nil))⟩
    case a3 =>
      have h : rr = 0 := by have := of_decide_eq_false h; omega
      refine Ex.cons ?_
      refine' Ex1.assign (d := .str (shown r rr (dec (r + 1)))) ?d1 (.inl rfl) ?d2
      case d1 =>
        exact Ev.eq (Ev.bin Ev.str (Ev.tuple (.cons (Ev.bin (Ev.name (by rfl)) Ev.int BinJ.add) .nil) (Nat.le_of_ble_eq_true rfl)) (fmt_S1 (by omega) (by omega))) (congrArg D.str (er0 h))
      exact Ex.nil ⟨rfl, .cons rfl (.cons rfl (.cons rfl .nil))⟩
    case a4 =>
      rintro ρ' μ' ⟨rfl, hs⟩
      refine Ex.weaken ?_ hs
      refine Ex.cons ?_
      refine' Ex1.mono (N := fun ρ' μ' => μ' = [] ∧ Sub [("rowpart", .str (shown r rr (dec (r + 1)))), ("colpart", .str (shown c cr (lets c.toNat)))] ρ') (Ex1.ite (b := decide (cr ≠ 0)) ?e1 (fun h => ?e2) (fun h => ?e3)) ?e4
      case e1 => walk_at "mv_t"
      case e2 =>
        have h : cr = 1 := by have := of_decide_eq_true h; omega
        refine Ex.cons ?_
        refine' Ex1.assign (d := .str (shown c cr (lets c.toNat))) ?f1 (.inl rfl) ?f2
        case f1 =>
          refine' Ev.eq (Ev.bin Ev.str (Ev.tuple (.cons (Ev.sub Ev.str (Ev.cmp (Ev.name (by rfl)) Ev.int CmpJ.lt) SubJ.pm) (.cons (Ev.callG ?i1 ?i2 ?i3 CallJ.abs (List.cons_ne_nil _ _)) .nil)) (Nat.le_of_ble_eq_true rfl)) (fmt_star (ln _) (g0 c) g2)) (congrArg D.str (ec h _ rfl))
          case i1 => walk_at "mv_glob"
          case i2 => walk_at "mv_callee"
          case i3 => walk_at "mv_args"
        exact Ex.nil ⟨rfl, .cons rfl (.cons rfl .nil)⟩
      case e3 =>
        have h : cr = 0 := by have := of_decide_eq_false h; omega
        refine Ex.cons ?_
        refine' Ex1.assign (d := .str (shown c cr (lets c.toNat))) ?j1 (.inl rfl) ?j2
        case j1 =>
          refine' Ev.eq (Ev.bin Ev.str (Ev.callG ?k1 ?k2 ?k3 (cc0 h) (List.cons_ne_nil _ _)) (BinJ.addL Ln.lit (lc0 h) (by decide))) (congrArg D.str (ec0 h))
          case k1 => walk_at "mv_glob"
          case k2 => walk_at "mv_callee"
          case k3 => walk_at "mv_args"
        exact Ex.nil ⟨rfl, .cons rfl (.cons rfl .nil)⟩
      case e4 =>
        rintro ρ' μ' ⟨rfl, hs⟩
        refine Ex.weaken ?_ hs
        refine Ex.cons ?_
        exact Ex1.ret (Ev.bin (Ev.name (by rfl)) (Ev.name (by rfl)) (BinJ.addL lc lr (by decide))) rfl (.str _)
end

/-! ### NL -/

abbrev Fc.wF (Γ : Fc) (F : List Addr) : Fc := { Γ with F := F }
theorem Fc.Ok.wF {Γ : Fc} (h : Γ.Ok) (F : List Addr) : (Γ.wF F).Ok := ⟨h.kind, h.glob, h.blt, h.gd, h.dep, h.un, h.hnd, h.apart⟩
theorem St.addF {Γ : Fc} {ρ μ s s'} {F : List Addr} (S : St Γ ρ μ s) (g : Grow s s') (hF : ∀ a ∈ F, a ∈ Γ.F ∨ s.heap.get? a = none) (ex : ∀ a ∈ F, ∃ o, s'.heap.get? a = some o) : St (Γ.wF F) ρ μ s' := by
  obtain ⟨m, cm, W⟩ := S
  refine ⟨m, cm, W.ok.wF F, W.fr.after g.1, fun x c e => (W.cell x c e).keeps g.1, fun x d e => ?_, fun a ds e => ?_, W.nod, ex⟩
  · obtain ⟨v, as, h1, h2, h3⟩ := W.loc x d e
    exact ⟨v, as, h1, (h2.forb hF).keeps g.1, h3⟩
  · obtain ⟨vs, as, n, h1, h2, h3, h4⟩ := W.mu a ds e
    exact ⟨vs, as, n, g.1 _ _ h1, RdVs.keeps g.1 (RdVs.forb hF h2), h3, h4⟩
theorem St.dropF {Γ : Fc} {ρ μ s} {F : List Addr} (S : St (Γ.wF F) ρ μ s) (hF : ∀ a ∈ Γ.F, a ∈ F) (hok : Γ.Ok) : St Γ ρ μ s := by
  obtain ⟨m, cm, W⟩ := S
  refine ⟨m, cm, hok, W.fr, W.cell, fun x d e => ?_, fun a ds e => ?_, W.nod, fun a m => W.forb a (hF a m)⟩
  · obtain ⟨v, as, h1, h2, h3⟩ := W.loc x d e
    exact ⟨v, as, h1, h2.forb fun a m => .inl (hF a m), h3⟩
  · obtain ⟨vs, as, n, h1, h2, h3, h4⟩ := W.mu a ds e
    exact ⟨vs, as, n, h1, RdVs.forb (fun a m => .inl (hF a m)) h2, h3, h4⟩

def Pk (F : List Addr) (h₀ h h' : Heap) (W : Addr → Prop) : Prop :=
  (∀ a o, ¬ W a → h.get? a = some o → h'.get? a = some o) ∧ ∀ a, W a → h₀.get? a = none ∧ ∃ o, h.get? a = some o ∧ ((∃ fs, o.data = .fields fs) ∨ (a ∈ F ∧ o.cls = .type "tuple" ∧ ∃ vs n, o.data = .seq vs n))
theorem Pk.offs {F : List Addr} {h₀ h h' : Heap} {W : Addr → Prop} (P : Pk F h₀ h h' W) : (∀ a o vs n, W a → a ∉ F → h.get? a = some o → o.cls = .type "tuple" → o.data = .seq vs n → False) ∧ (∀ a, IsLst h a → ¬ W a) := by
  refine ⟨fun a o vs n w f ho _ hd => ?_, fun a ⟨o, vs, n, ho, hc, hd⟩ w => ?_⟩
  · obtain ⟨_, o', ho', h3⟩ := P.2 a w
    rw [ho] at ho'; cases ho'
    rcases h3 with ⟨fs, h3⟩ | h3
    · rw [hd] at h3; cases h3
    · exact f h3.1
  · obtain ⟨_, o', ho', h3⟩ := P.2 a w
    rw [ho] at ho'; cases ho'
    rcases h3 with ⟨fs, h3⟩ | h3
    · rw [hd] at h3; cases h3
    · rw [hc] at h3; exact absurd h3.2.1 (by decide)
open Classical in
theorem St.pokes {Γ : Fc} {F : List Addr} {ρ μ s} {h' : Heap} {W : Addr → Prop} (S : St (Γ.wF F) ρ μ s) (hok : Γ.Ok) (P : Pk F Γ.h₀ s.heap h' W) (hF : ∀ a ∈ Γ.F, a ∈ F) (hex : ∀ a ∈ Γ.F, W a → ∃ o', h'.get? a = some o') : St Γ ρ μ { s with heap := h' } := by
  obtain ⟨m, cm, V⟩ := S
  obtain ⟨tz, ka⟩ := P.offs
  have tk : ∀ a o, s.heap.get? a = some o → ¬ W a → h'.get? a = some o := fun a o e w => P.1 a o w e
  have nd : ∀ a o, W a → s.heap.get? a = some o → (∃ fs, o.data = .fields fs) ∨ ∃ vs n, o.data = .seq vs n := fun a o w ho => by
    obtain ⟨_, o', ho', h3⟩ := P.2 a w
    rw [ho] at ho'; cases ho'
    exact h3.imp id fun h => h.2.2
  refine ⟨m, cm, hok, ⟨?_, fun a o e => tk a o (V.fr.keep a o e) fun w => ?_, V.fr.above⟩, fun y c e => ?_, fun y d e => ?_, fun a ds hm => ?_, V.nod, fun a hm => ?_⟩
  · obtain ⟨o, es, ep, ho, hd, r⟩ := V.fr.ns
    refine ⟨o, es, ep, tk _ _ ho fun w => ?_, hd, r⟩
    rcases nd _ _ w ho with ⟨fs, h⟩ | ⟨vs, n, h⟩ <;> (rw [hd] at h; cases h)
  · have := (P.2 a w).1
    rw [this] at e; cases e
  · obtain ⟨o, ho, hd⟩ := V.cell y c e
    refine ⟨o, tk _ _ ho fun w => ?_, hd⟩
    rcases nd _ _ w ho with ⟨fs, h⟩ | ⟨vs, n, h⟩ <;> (rw [hd] at h; cases h)
  · obtain ⟨v, as, h1, h2, h3⟩ := V.loc y d e
    exact ⟨v, as, h1, (h2.off W tz tk fun a ha => ka a (h2.kind a ha)).forb fun a m => .inl (hF a m), h3⟩
  · obtain ⟨vs, as, nn, k1, k2, k3, k4⟩ := V.mu a ds hm
    exact ⟨vs, as, nn, tk _ _ k1 (ka a ⟨_, _, _, k1, rfl, rfl⟩), RdVs.forb (fun a m => .inl (hF a m)) (rdvs_off W tz tk k2 fun c hc => ka c (rdvs_kind k2 c hc)), k3, k4⟩
  · by_cases w : W a
    · exact hex a hm w
    · obtain ⟨o, e⟩ := V.forb a (hF a hm)
      exact ⟨o, tk a o e w⟩
open Classical in
theorem Kept.pokes {Γ : Fc} {μ μ' s₀ s} {h' : Heap} {F : List Addr} {h₀ : Heap} {W : Addr → Prop} (K : Kept Γ μ s₀ μ' s) (hn : ∀ a, W a → s₀.heap.get? a = none) (P : Pk F h₀ s.heap h' W) : Kept Γ μ s₀ μ' { s with heap := h' } where
  keep := fun a o e n c => P.1 a o (fun q => by rw [hn a q] at e; cases e) (K.keep a o e n c)
  ex := fun a o e => let ⟨o', e'⟩ := K.ex a o e; ⟨o', P.1 a o' (fun q => by rw [hn a q] at e; cases e) e'⟩
  eq := by obtain ⟨h, tk, rfl⟩ := K.eq; exact ⟨h', tk, rfl⟩
  mu := K.mu
theorem Pk.rdv {F : List Addr} {h₀ h h' : Heap} {W : Addr → Prop} (P : Pk F h₀ h h' W) {v d as} (r : RdV F h v d as) : RdV F h' v d as :=
  rdv_off W P.offs.1 (fun a o e w => P.1 a o w e) r fun a ha => P.offs.2 a (rdv_kind r a ha)

noncomputable def zipD : List PyData → List PyData → List PyData
  | x :: xs, y :: ys => .tuple [x, y] :: zipD xs ys
  | _, _ => []
theorem zipD_len : ∀ {xs ys : List PyData}, xs.length = ys.length → (zipD xs ys).length = xs.length
  | [], [], _ => rfl
  | x :: xs, y :: ys, h => by simp [zipD, zipD_len (Nat.succ.inj h)]
theorem zipD_get : ∀ {xs ys : List PyData} (i : Nat) (x y : PyData), xs[i]? = some x → ys[i]? = some y → (zipD xs ys)[i]? = some (.tuple [x, y])
  | x :: xs, y :: ys, 0, _, _, h1, h2 => by
    simp at h1 h2; subst h1 h2; rfl
  | x :: xs, y :: ys, i + 1, _, _, h1, h2 => by
    simp only [zipD, List.getElem?_cons_succ] at h1 h2 ⊢
    exact zipD_get i _ _ h1 h2
  | [], _, i, _, _, h1, _ => by simp at h1
  | _ :: _, [], i, _, _, _, h2 => by simp at h2

/-! ### NM -/

theorem list_of {F : List Addr} {h : Heap} {v : Value} {xs : List PyData} {as : List Addr} (r : RdV F h v (.list xs) as) : ∃ l vs as', v = .ref l ∧ as = l :: as' ∧ h.IsList l vs ∧ RdVs F h vs.toList xs as' := by
  cases r with
  | @list l o vs n _ as ho hc hd hr => exact ⟨l, vs, as, rfl, rfl, ⟨o, ho, hc, n, hd⟩, hr⟩

theorem callType_ev {Γ : Fc} {ρ μ T zx zp cpos e1 es} {ds : List PyData} (hz : Ev Γ ρ μ (.Name zx zp) (.val (.type T))) (h : EvAll Γ ρ μ (e1 :: es) ds)
    (hstar : ∀ r, (backTo r (starEach (e1 :: es) Γ.env)).any (·.1) = false) (hst : starEach (e1 :: es) Γ.env = (false, eval e1 Γ.env) :: starEach es Γ.env)
    (s : Shared) (Q : Value → Shared → Prop) (E : Value → Shared → Prop) (S : St Γ ρ μ s)
    (k : ∀ vs as s', Grow s s' → RdVs Γ.F s'.heap vs ds as → (∀ a ∈ as, a ∉ Γ.Z μ) → wpAny Γ.M Γ.A (call (.type T) vs []) Q E s') : wpAny Γ.M Γ.A (eval (.Call (.Name zx zp) (e1 :: es) [] cpos) Γ.env) Q E s := by
  refine wpAny_Call_Name_kw (hz.run s _ E S fun v as s0 g0 r0 _ => ?_)
  obtain ⟨rfl, _⟩ := r0
  have S0 := S.grow g0
  refine PyProof.Rows.callWith_type (hstar _) ?_
  rw [hst]
  show wpAny _ _ (evalArgs _ true ((false, _) :: _) []) _ E s0
  refine evalArgs_plain ?_
  have q := h.run cpos s0 (fun vs s' => wpAny Γ.M Γ.A (call (.type T) ([] ++ vs) []) Q E s') E S0 fun vs as s1 g1 r1 n1 => k vs as s1 (g0.trans g1) r1 n1
  rw [hst] at q
  exact q

structure ZInv (Γ : Fc) (μ μ' : Mu) (s₁ s' : Shared) (F : List Addr) (z TI TO i1 i2 l1 l2 : Addr) (xs ys : List PyData) (as1 as2 : List Addr) (i : Nat) : Prop where
  K : Kept Γ μ s₁ μ' s'
  hz : IsZip s'.heap z TI TO .none
  hTI : IsPair s'.heap TI (.ref i1) (.ref i2)
  hTO : ∃ a b, IsPair s'.heap TO a b
  h1 : s'.heap.IsListIter i1 l1 i
  h2 : s'.heap.IsListIter i2 l2 i
  fz : Fresh Γ μ' z
  fTI : Fresh Γ μ' TI
  fTO : Fresh Γ μ' TO
  f1 : Fresh Γ μ' i1
  f2 : Fresh Γ μ' i2
  r1 : RdV F s'.heap (.ref l1) (.list xs) (l1 :: as1)
  r2 : RdV F s'.heap (.ref l2) (.list ys) (l2 :: as2)
  n1 : ∀ a ∈ l1 :: as1, a ∉ Γ.Z μ'
  n2 : ∀ a ∈ l2 :: as2, a ∉ Γ.Z μ'

theorem Kept.unF {Γ : Fc} {F : List Addr} {μ s μ' s'} (k : Kept (Γ.wF F) μ s μ' s') : Kept Γ μ s μ' s' := ⟨k.keep, k.ex, k.eq, k.mu⟩
theorem Kept.toF {Γ : Fc} {F : List Addr} {μ s μ' s'} (k : Kept Γ μ s μ' s') : Kept (Γ.wF F) μ s μ' s' := ⟨k.keep, k.ex, k.eq, k.mu⟩
theorem ZInv.kept {Γ : Fc} {μ μ' μ'' : Mu} {s₁ s' s'' : Shared} {F : List Addr} {z TI TO i1 i2 l1 l2 : Addr} {xs ys : List PyData} {as1 as2 : List Addr} {i : Nat} {ρ' : Loc} (I : ZInv Γ μ μ' s₁ s' F z TI TO i1 i2 l1 l2 xs ys as1 as2 i) (S : St (Γ.wF F) ρ' μ' s') (K : Kept Γ μ' s' μ'' s'') : ZInv Γ μ μ'' s₁ s'' F z TI TO i1 i2 l1 l2 xs ys as1 as2 i := by
  obtain ⟨a, b, hTO⟩ := I.hTO
  obtain ⟨o1, ho1, hc1, hd1⟩ := I.h1
  obtain ⟨o2, ho2, hc2, hd2⟩ := I.h2
  have e1 := K.fresh I.f1 ho1
  have e2 := K.fresh I.f2 ho2
  have ez := K.fresh I.fz I.hz
  have eTI := K.fresh I.fTI I.hTI
  have eTO := K.fresh I.fTO hTO
  exact ⟨I.K.trans K, ez.2, eTI.2, ⟨a, b, eTO.2⟩, ⟨o1, e1.2, hc1, hd1⟩, ⟨o2, e2.2, hc2, hd2⟩, ez.1, eTI.1, eTO.1, e1.1, e2.1, Rd.sameKept (d := .py _) S K.toF I.r1 I.n1, Rd.sameKept (d := .py _) S K.toF I.r2 I.n2,
    Kept.lists (Γ := Γ.wF F) S K.toF (fun a ha => rdv_kind I.r1 a ha) I.n1, Kept.lists (Γ := Γ.wF F) S K.toF (fun a ha => rdv_kind I.r2 a ha) I.n2⟩

theorem Ex1.forZip {Γ : Fc} {ρ μ elts kk tpos e1 e2 zx zp cpos body pos N R} {xs ys : List PyData} (hz : Ev Γ ρ μ (.Name zx zp) (.val (.type "zip"))) (h : EvAll Γ ρ μ [e1, e2] [.list xs, .list ys]) (hlen : xs.length = ys.length)
    (hl : ∀ F, Loop (Γ.wF F) (.Tuple elts kk tpos) body N R (zipD xs ys) ρ μ)
    (hstar : ∀ r, (backTo r (starEach [e1, e2] Γ.env)).any (·.1) = false := by intro _; rfl) (hst : starEach [e1, e2] Γ.env = (false, eval e1 Γ.env) :: starEach [e2] Γ.env := by rfl)
    (hfs : ∀ x, foldedSetIterable (.Call (.Name zx zp) [e1, e2] [] cpos) Γ.env x = pure x := by intro _; rfl) : Ex1 Γ ρ μ (.For (.Tuple elts kk tpos) (.Call (.Name zx zp) [e1, e2] [] cpos) body [] pos) N R := ⟨fun s Q E S kn kr => by
  refine wpAny_For (callType_ev hz h hstar hst s _ E S fun vs as s1 g1 r1 n1 => ?_) hfs
  have S1 := S.grow g1
  have hok : Γ.Ok := by obtain ⟨m, cm, W⟩ := S1; exact W.ok
  have hh := S1.amb.hnd
  obtain ⟨v1, vs', b1, c1, rfl, q1, r1', e1⟩ : ∃ v vs' bs cs, vs = v :: vs' ∧ RdV Γ.F s1.heap v (.list xs) bs ∧ RdVs Γ.F s1.heap vs' [.list ys] cs ∧ as = bs ++ cs := by
    cases r1 with
    | cons a b => exact ⟨_, _, _, _, rfl, a, b, rfl⟩
  obtain ⟨v2, vs'', b2, c2, rfl, q2, r2', e2⟩ : ∃ v vs'' bs cs, vs' = v :: vs'' ∧ RdV Γ.F s1.heap v (.list ys) bs ∧ RdVs Γ.F s1.heap vs'' [] cs ∧ c1 = bs ++ cs := by
    cases r1' with
    | cons a b => exact ⟨_, _, _, _, rfl, a, b, rfl⟩
  cases r2'
  obtain ⟨l1, ws1, as1, rfl, rfl, hL1, rv1⟩ := list_of q1
  obtain ⟨l2, ws2, as2, rfl, rfl, hL2, rv2⟩ := list_of q2
  subst e2
  subst e1
  have n1a : ∀ a ∈ l1 :: as1, a ∉ Γ.Z μ := fun a m => n1 a (List.mem_append_left _ m)
  have n2a : ∀ a ∈ l2 :: as2, a ∉ Γ.Z μ := fun a m => n1 a (List.mem_append_right _ (List.mem_append_left _ m))
  show wpAny _ _ (call (.type "zip") [.ref l1, .ref l2]) _ E s1
  refine call_zip_2 hL1 hL2 fun h' hz' hTI' hTO' hi1' hi2' hsz hk => ?_
  refine wpAny_pyIter_zip hz' ?_
  have g2 : Grow s1 { s1 with heap := h' } := ⟨hk, h', s1.toks, rfl⟩
  have none : ∀ k, s1.heap.get? (s1.heap.objs.size + k) = Option.none := fun k => Heap.get?_none_of_le (Nat.le_add_right _ _)
  have none0 : s1.heap.get? s1.heap.objs.size = Option.none := none 0
  have l1lt : @LT.lt Nat _ l1 s1.heap.objs.size := by obtain ⟨o, ho, _⟩ := hL1; exact Heap.lt_size ho
  have l2lt : @LT.lt Nat _ l2 s1.heap.objs.size := by obtain ⟨o, ho, _⟩ := hL2; exact Heap.lt_size ho
  generalize hn0 : s1.heap.objs.size = n0 at *
  have D : ZipApart (n0 + 4) (n0 + 2) (n0 + 3) n0 (n0 + 1) l1 l2 := by constructor <;> (show @Ne Nat _ _; omega)
  have F' : List Addr := (n0 + 3) :: Γ.F
  generalize hF' : (n0 + 3) :: Γ.F = F'
  have subF : ∀ a ∈ F', a ∈ Γ.F ∨ s1.heap.get? a = Option.none := fun a m => by
    rw [← hF'] at m
    rcases List.mem_cons.mp m with rfl | m
    · exact .inr (none 3)
    · exact .inl m
  have S2 : St (Γ.wF F') ρ μ { s1 with heap := h' } := by
    refine S1.addF g2 subF fun a m => ?_
    rw [← hF'] at m
    rcases List.mem_cons.mp m with rfl | m
    · exact ⟨_, hTO'⟩
    · obtain ⟨o, ho⟩ := S1.amb.forb a m
      exact ⟨o, hk _ _ ho⟩
  have fr : ∀ k, Fresh Γ μ (n0 + k) ∧ Γ.h₀.get? (n0 + k) = Option.none ∧ n0 + k ∉ Γ.F := fun k => S1.fresh_new (none k)
  have KK : Kept Γ μ s1 μ { s1 with heap := h' } := Kept.of_grow g2
  refine codeAny_forLoop_any (fun k s' => ∃ i ρ' μ', k = xs.length + 1 - i ∧ i ≤ xs.length ∧ Loop (Γ.wF F') (.Tuple elts kk tpos) body N R ((zipD xs ys).drop i) ρ' μ' ∧ St (Γ.wF F') ρ' μ' s' ∧ ZInv Γ μ μ' s1 s' F' (n0 + 4) (n0 + 2) (n0 + 3) n0 (n0 + 1) l1 l2 xs ys as1 as2 i)
    (fun k s' hI => ?_) (xs.length + 1)
    ⟨0, ρ, μ, by omega, by omega, hl F', S2, ⟨KK, hz', hTI', ⟨_, _, hTO'⟩, hi1', hi2', (fr 4).1, (fr 2).1, (fr 3).1, (fr 0).1, (fr 1).1, RdV.keeps hk (RdV.forb subF q1), RdV.keeps hk (RdV.forb subF q2), n1a, n2a⟩⟩
  obtain ⟨i, ρ', μ', rfl, hi, hLp, S', I⟩ := hI
  obtain ⟨a, b, hTO⟩ := I.hTO
  obtain ⟨m1, us1, bs1, e1, e1', hU1, rv1'⟩ := list_of I.r1
  cases e1; cases e1'
  obtain ⟨m2, us2, bs2, e2, e2', hU2, rv2'⟩ := list_of I.r2
  cases e2; cases e2'
  have pk : ∀ h'', (∀ c o, c ≠ n0 + 4 → c ≠ n0 + 3 → c ≠ n0 → c ≠ n0 + 1 → s'.heap.get? c = some o → h''.get? c = some o) → Pk F' Γ.h₀ s'.heap h'' (fun c => c = n0 + 4 ∨ c = n0 + 3 ∨ c = n0 ∨ c = n0 + 1) := fun h'' ext => by
    refine ⟨fun c o w e => ext c o (fun q => w (.inl q)) (fun q => w (.inr (.inl q))) (fun q => w (.inr (.inr (.inl q)))) (fun q => w (.inr (.inr (.inr q)))) e, fun c w => ?_⟩
    rcases w with rfl | rfl | rfl | rfl
    · exact ⟨(fr 4).2.1, _, I.hz, .inl ⟨_, rfl⟩⟩
    · exact ⟨(fr 3).2.1, _, hTO, .inr ⟨by rw [← hF']; exact .head _, rfl, _, _, rfl⟩⟩
    · obtain ⟨o, ho, _, hd⟩ := I.h1
      exact ⟨(fr 0).2.1, o, ho, .inl ⟨_, hd⟩⟩
    · obtain ⟨o, ho, _, hd⟩ := I.h2
      exact ⟨(fr 1).2.1, o, ho, .inl ⟨_, hd⟩⟩
  have hnone : ∀ a, (a = n0 + 4 ∨ a = n0 + 3 ∨ a = n0 ∨ a = n0 + 1) → s1.heap.get? a = Option.none := fun a w => by
    rcases w with rfl | rfl | rfl | rfl
    · exact none 4
    · exact none 3
    · exact none 0
    · exact none 1
  have subF2 : ∀ a ∈ Γ.F, a ∈ F' := fun a m => by rw [← hF']; exact .tail _ m
  have sz1 := readsAll_len rv1'
  have sz2 := readsAll_len rv2'
  cases hx : xs[i]? with
  | none =>
    have hle : xs.length ≤ i := by simpa using hx
    refine wpAny_pyNext_zip_end hh D I.hz I.hTI hTO I.h1 I.h2 hU1 hU2 (.inl (by simp at sz1 ⊢; omega)) fun h'' ext => ?_
    have P := pk h'' ext
    have S3 := S'.pokes (h' := h'') hok P subF2 fun a m w => by
      rcases w with rfl | rfl | rfl | rfl
      · exact absurd m (fr 4).2.2
      · exact absurd m (fr 3).2.2
      · exact absurd m (fr 0).2.2
      · exact absurd m (fr 1).2.2
    have hN : N ρ' μ' := by
      rw [List.drop_eq_nil_of_le (by rw [zipD_len hlen]; exact hle)] at hLp; exact hLp
    exact wpAny_execs_nil (kn ρ' μ' _ hN S3 ((Kept.of_grow g1).trans (I.K.pokes hnone P)))
  | some x =>
    have hlt : i < xs.length := by
      rcases Nat.lt_or_ge i xs.length with q | q
      · exact q
      · rw [List.getElem?_eq_none q] at hx; cases hx
    obtain ⟨y, hy⟩ : ∃ y, ys[i]? = some y := ⟨ys[i]'(by omega), by simp⟩
    obtain ⟨vx, bx, hvx, rx, hbx⟩ := rdvs_get rv1' i x hx
    obtain ⟨vy, by', hvy, ry, hby⟩ := rdvs_get rv2' i y hy
    refine wpAny_pyNext_zip_item D I.hz I.hTI hTO I.h1 I.h2 hU1 hU2 (x := vx) (y := vy) (by simpa using hvx) (by simpa using hvy) fun h'' jz jTO j1 j2 jT jsz ext => ?_
    refine wpAny_letOwnedTupleGo_zip jz fun h3 kz ks => ?_
    have ext3 : ∀ c o, c ≠ n0 + 4 → h''.get? c = some o → h3.get? c = some o := fun c o q e => (ks.2 c q).trans e
    have P := pk h3 fun c o q1 q2 q3 q4 e => ext3 c o q1 (ext c o q1 q2 q3 q4 e)
    have kTO : IsPair h3 (n0 + 3) vx vy := ext3 _ _ D.TOz jTO
    have S3 : St (Γ.wF F') ρ' μ' { s' with heap := h3 } := St.pokes (Γ := Γ.wF F') (F := F') S' (hok.wF F') P (fun _ m => m) fun a m w => by
      rcases w with rfl | rfl | rfl | rfl
      · exact ⟨_, kz⟩
      · exact ⟨_, kTO⟩
      · obtain ⟨o, e, _⟩ := j1; exact ⟨o, ext3 _ _ D.i1z e⟩
      · obtain ⟨o, e, _⟩ := j2; exact ⟨o, ext3 _ _ D.i2z e⟩
    have zlt : @LT.lt Nat _ (n0 + 4) s'.heap.objs.size := Heap.lt_size I.hz
    have hT : IsPair h3 s'.heap.objs.size vx vy := ext3 _ _ (Nat.ne_of_gt zlt) jT
    have TF : s'.heap.objs.size ∉ F' := fun m => by
      obtain ⟨o, e⟩ := S'.amb.forb _ m
      exact Nat.lt_irrefl _ (Heap.lt_size e)
    have rT : RdV F' h3 (.ref s'.heap.objs.size) (.tuple [x, y]) (bx ++ (by' ++ [])) := RdV.tuple (n := 0) hT rfl rfl TF (.cons (P.rdv rx) (.cons (P.rdv ry) .nil))
    have nT : ∀ c ∈ bx ++ (by' ++ []), c ∉ (Γ.wF F').Z μ' := fun c m => by
      rcases List.mem_append.mp m with m | m
      · exact I.n1 c (.tail _ (hbx c m))
      · exact I.n2 c (.tail _ (hby c (by simpa using m)))
    have I3 : ZInv Γ μ μ' s1 { s' with heap := h3 } F' (n0 + 4) (n0 + 2) (n0 + 3) n0 (n0 + 1) l1 l2 xs ys as1 as2 (i + 1) :=
      ⟨I.K.pokes hnone P, kz, P.1 _ _ (by rintro (q | q | q | q) <;> (have q : @Eq Nat _ _ := q; omega)) I.hTI, ⟨_, _, kTO⟩, j1.at fun o e => ext3 _ o D.i1z e, j2.at fun o e => ext3 _ o D.i2z e, I.fz, I.fTI, I.fTO, I.f1, I.f2, P.rdv I.r1, P.rdv I.r2, I.n1, I.n2⟩
    have hdrop : (zipD xs ys).drop i = .tuple [x, y] :: (zipD xs ys).drop (i + 1) := by
      have hg := zipD_get i x y hx hy
      have hlt' : i < (zipD xs ys).length := by rw [zipD_len hlen]; exact hlt
      rw [List.drop_eq_getElem_cons hlt']
      rw [List.getElem?_eq_getElem hlt'] at hg
      rw [Option.some.inj hg]
    rw [hdrop] at hLp
    obtain ⟨ρ2, hasg, hbody⟩ := hLp
    refine hasg.run μ' _ (.ref s'.heap.objs.size) (bx ++ (by' ++ [])) _ _ S3 rT nT fun s4 S4 K4 => ?_
    have I4 := I3.kept S3 K4.unF
    refine hbody.run s4 _ _ S4 (fun ρ5 μ5 s5 hN5 S5 K5 => ?_) fun v' d' as' s5 hR' r' n' ok => ?_
    · exact ⟨xs.length + 1 - (i + 1), by omega, i + 1, ρ5, μ5, rfl, hlt, hN5, S5, I4.kept S4 K5.unF⟩
    · exact kr v' d' as' s5 hR' (r'.forb fun a m => .inl (subF2 a m)) n' (RetOk.of_kept ((Kept.of_grow g1).trans I4.K) ok)⟩

/-! ### NO -/
theorem Loop.inv {Γ : Fc} {target body N R} (I : Nat → Loc → Mu → Prop) (ds : List PyData)
    (step : ∀ i d ρ μ, ds[i]? = some d → I i ρ μ → ∃ ρ', Asg Γ target (.py d) ρ ρ' ∧ Ex Γ ρ' μ body (I (i + 1)) R) (fin : ∀ ρ μ, I ds.length ρ μ → N ρ μ) :
    ∀ {ρ μ}, I 0 ρ μ → Loop Γ target body N R ds ρ μ := by
  have key : ∀ (rest : List PyData) (i : Nat) (ρ : Loc) (μ : Mu), ds.drop i = rest → i ≤ ds.length → I i ρ μ → Loop Γ target body N R rest ρ μ := by
    intro rest
    induction rest with
    | nil =>
      intro i ρ μ h hi hI
      have : ds.length ≤ i := by simpa using h
      have : i = ds.length := by omega
      subst this
      exact fin ρ μ hI
    | cons d rest ih =>
      intro i ρ μ h hi hI
      have h0 : ds[i]? = some d := by have := congrArg (fun x => x[0]?) h; simpa using this
      have h1 : ds.drop (i + 1) = rest := by have := congrArg (fun x => x.drop 1) h; simpa [List.drop_drop, Nat.add_comm] using this
      have hlt : i < ds.length := by
        rcases Nat.lt_or_ge i ds.length with q | q
        · exact q
        · rw [List.getElem?_eq_none q] at h0; cases h0
      obtain ⟨ρ', ha, hb⟩ := step i d ρ μ h0 hI
      exact ⟨ρ', ha, hb.mono fun ρ'' μ'' hI' => ih (i + 1) ρ'' μ'' h1 hlt hI'⟩
  intro ρ μ h0
  exact key ds 0 ρ μ rfl (Nat.zero_le _) h0
theorem Sub.both {ρ r : Loc} {x : String} {d : D} (h : Sub r ρ) : Sub ((x, d) :: r) ((x, d) :: ρ) := fun y e q => by
  rw [List.lookup_cons] at q ⊢
  by_cases c : y = x
  · subst c; rw [beq_self_eq_true] at q ⊢; exact q
  · rw [show (y == x) = false from beq_eq_false_iff_ne.mpr c] at q ⊢; exact h y e q
theorem Sub.skip {ρ r : Loc} {x : String} {d : D} (h : Sub r ρ) (hx : r.lookup x = none := by rfl) : Sub r ((x, d) :: ρ) := fun y e q => by
  rw [List.lookup_cons]
  by_cases c : y = x
  · subst c; rw [hx] at q; cases q
  · rw [show (y == x) = false from beq_eq_false_iff_ne.mpr c]; exact h y e q
theorem EvT.and2F {Γ : Fc} {ρ μ e1 e2 pos} (h : EvT Γ ρ μ e1 false) : EvT Γ ρ μ (.BoolOp .And [e1, e2] pos) false := EvT.and2 (b := false) (c := false) h (fun h => by cases h)
theorem EvT.and2T {Γ : Fc} {ρ μ e1 e2 pos} {c : Bool} (h : EvT Γ ρ μ e1 true) (h2 : EvT Γ ρ μ e2 c) : EvT Γ ρ μ (.BoolOp .And [e1, e2] pos) c := EvT.and2 (b := true) h (fun _ => h2)
/-- a test that fails, of a guard that returns -/
theorem Ex1.guard {Γ : Fc} {ρ μ t b1 pos N R} (h : EvT Γ ρ μ t false) (hN : N ρ μ) : Ex1 Γ ρ μ (.If t b1 [] pos) N R := Ex1.ite h (fun h => by cases h) (fun _ => Ex.nil hN)
theorem Ex1.append0 {Γ : Fc} {ρ μ₂ a ds e d xp apos cpos epos N R} {x : String} (hx : ρ.lookup x = some (.val (.ref a))) (h : Ev Γ ρ ((a, ds) :: μ₂) e (.py d)) (k : N ρ ((a, ds ++ [d]) :: μ₂)) (hlen : ds.length ≤ 16777216)
    (hi : interactive Γ.env = false) (hs : swapsWith (.Call (.Attribute (.Name (Str.ofString x) xp) (Str.ofString "append") apos) [e] [] cpos) none epos.line Γ.env = pure false := by rfl)
    (hbase : attributeBase (.Name (Str.ofString x) xp) (Str.ofString "append") Γ.env (eval (.Name (Str.ofString x) xp) Γ.env) = eval (.Name (Str.ofString x) xp) Γ.env := by rfl)
    (hst : starEach [e] Γ.env = [(false, eval e Γ.env)] := by rfl) (hline : (apos.endLine == cpos.line) = true := by rfl)
    (hd : (Str.ofString x == ("__debug__" : Str)) = false := by decide) (hn : (Str.ofString x == ("__classdict__" : Str)) = false := by decide) :
    Ex1 Γ ρ ((a, ds) :: μ₂) (.Expr (.Call (.Attribute (.Name (Str.ofString x) xp) (Str.ofString "append") apos) [e] [] cpos) epos) N R := Ex1.append (μ₁ := []) hx h k hlen hi hs hbase hst hline hd hn
theorem Ex1.append1 {Γ : Fc} {ρ p μ₂ a ds e d xp apos cpos epos N R} {x : String} (hx : ρ.lookup x = some (.val (.ref a))) (h : Ev Γ ρ (p :: (a, ds) :: μ₂) e (.py d)) (k : N ρ (p :: (a, ds ++ [d]) :: μ₂)) (hlen : ds.length ≤ 16777216)
    (hi : interactive Γ.env = false) (hs : swapsWith (.Call (.Attribute (.Name (Str.ofString x) xp) (Str.ofString "append") apos) [e] [] cpos) none epos.line Γ.env = pure false := by rfl)
    (hbase : attributeBase (.Name (Str.ofString x) xp) (Str.ofString "append") Γ.env (eval (.Name (Str.ofString x) xp) Γ.env) = eval (.Name (Str.ofString x) xp) Γ.env := by rfl)
    (hst : starEach [e] Γ.env = [(false, eval e Γ.env)] := by rfl) (hline : (apos.endLine == cpos.line) = true := by rfl)
    (hd : (Str.ofString x == ("__debug__" : Str)) = false := by decide) (hn : (Str.ofString x == ("__classdict__" : Str)) = false := by decide) :
    Ex1 Γ ρ (p :: (a, ds) :: μ₂) (.Expr (.Call (.Attribute (.Name (Str.ofString x) xp) (Str.ofString "append") apos) [e] [] cpos) epos) N R := Ex1.append (μ₁ := [p]) hx h k hlen hi hs hbase hst hline hd hn
abbrev T4 (a b c d : Int) : PyData := .tuple [.int a, .int b, .int c, .int d]
theorem CmpJ.dneR {d : PyData} (h1 : SeqAt.shaped d = true := by rfl) (h : d.canLay0 = true := by rfl) : CmpJ .NotEq (.py d) (.py d) false := CmpJ.eq (CmpJ.dne h1 h1) (by rw [SeqAt.eqv_refl d h]; rfl)

structure Good (b0 b1 re : Int) (wh : Bool) (r c l f R C : Int) : Prop where
  fl : l = 0 ∨ l = 1
  ff : f = 0 ∨ f = 1
  r0 : l = 0 → r = R
  c0 : f = 0 → c = C
  R0 : 0 ≤ R
  R1 : R < 70000
  C0 : 0 ≤ C
  C1 : C < 700
  r1 : -100000 < r
  r2 : r < 100000
  c1 : -1000 < c
  c2 : c < 1000
  w : wh = true → plainF (nmrel r c l f b0 b1 false) = T4 R C l f
  rd : roundF (nmrel r c l f b0 b1 true) b0 b1 re = T4 R C l f
  p : l = 0 → f = 0 → plainF (nmabs r c false) = T4 R C l f
theorem Ln.k {x : Str} {n : Nat} (h : Ln x n) (hn : n ≤ 1000) : x.length ≤ 1000 := Nat.le_trans h hn
theorem Sub.refl {ρ : Loc} : Sub ρ ρ := fun _ _ e => e
theorem shown_one {v l : Int} {x y : Str} (h : l = 1) : shown v l x = shown v l y := by unfold shown; rw [if_pos h, if_pos h]
theorem sne_self {x : Str} : CmpJ .NotEq (.str x) (.str x) false := CmpJ.sne.eq (by simp)
theorem seq_self {x : Str} : CmpJ .Eq (.str x) (.str x) true := CmpJ.seq.eq (by simp)
theorem rowrel_b {r rr b : Int} : rowrel r rr b true = rowrel r rr 0 true := by unfold rowrel; rfl
theorem colrel_b {c cr b : Int} : colrel c cr b true = colrel c cr 0 true := by unfold colrel; rfl
theorem nmrelN_true {r c l f b0 b1 : Int} : nmrelN r c l f true = nmrel r c l f b0 b1 true := by unfold nmrelN nmrel; rw [rowrel_b (b := b0), colrel_b (b := b1)]; rfl
theorem nmrelN_some {r c l f b0 b1 : Int} (h : ¬ (l = 0 ∧ f = 0)) : nmrelN r c l f false = nmrel r c l f b0 b1 true := by unfold nmrelN nmrel; rw [if_neg h, if_neg h, rowrel_b (b := b0), colrel_b (b := b1)]; rfl
theorem nmrelN_none {r c l f : Int} (h : l = 0 ∧ f = 0) : nmrelN r c l f false = nmabs r c false := by unfold nmrelN; rw [if_pos h]
section
set_option maxHeartbeats 2000000
theorem names_call (b0 b1 re : Int) (wh : Bool) (hre : 0 < re) (r1 c1 l1 f1 R1 C1 r2 c2 l2 f2 R2 C2 : Int) (G1 : Good b0 b1 re wh r1 c1 l1 f1 R1 C1) (G2 : Good b0 b1 re wh r2 c2 l2 f2 R2 C2) :
    CallJ 5 (.ref 228) [.lst [T4 r1 c1 l1 f1, T4 r2 c2 l2 f2], .lst [T4 R1 C1 l1 f1, T4 R2 C2 l2 f2], .tup [.int b0, .int b1], .int re, .bool wh] (.bool true) := by
  refine CallJ.fn (names := ["told", "cells", "base", "reach", "whole"]) (dvs := []) (dds := []) (fun P => rfl) rfl (fun P => rfl) ?_ (fun _ _ => .nil) (by decide) (by decide) (by decide) ?_
  · intro w s vs hl hK
    match vs, hl with
    | [a, b, c, d, e], _ => exact BindsTo.of_eq rfl
  · intro w mg mb A h₀ L F
    refine Ex.cons (Ex1.newList (.inl rfl) fun pa => ?_)
    refine Ex.cons (Ex1.newList (.inl rfl) fun pl => ?_)
    refine Ex.cons ?_
    refine' Ex1.forZip (xs := [T4 r1 c1 l1 f1, T4 r2 c2 l2 f2]) (ys := [T4 R1 C1 l1 f1, T4 R2 C2 l2 f2]) ?z1 ?z2 rfl (fun F' => ?z3)
    case z1 => walk_at "mv_glob"
    case z2 => exact .cons (Ev.name (by rfl)) (.cons (Ev.name (by rfl)) .nil)
    case z3 =>
      refine Loop.inv (fun i ρ μ => Sub [("told", .lst [T4 r1 c1 l1 f1, T4 r2 c2 l2 f2]), ("cells", .lst [T4 R1 C1 l1 f1, T4 R2 C2 l2 f2]), ("base", .tup [.int b0, .int b1]), ("reach", .int re), ("whole", .bool wh), ("parts", .val (.ref pa)), ("plain", .val (.ref pl))] ρ ∧
        μ = [(pl, [PyData.str (nmrel r1 c1 l1 f1 b0 b1 false), .str (nmrel r2 c2 l2 f2 b0 b1 false)].take i), (pa, [PyData.str (nmrel r1 c1 l1 f1 b0 b1 true), .str (nmrel r2 c2 l2 f2 b0 b1 true)].take i)]) _ ?step ?fin ?init
      case init => exact ⟨.cons rfl (.cons rfl (.cons rfl (.cons rfl (.cons rfl (.cons rfl (.cons rfl .nil)))))), rfl⟩
      case step =>
        rintro i d ρ μ hd ⟨hS, rfl⟩
        have key : ∃ r c l f R C, d = .tuple [T4 r c l f, T4 R C l f] ∧ Good b0 b1 re wh r c l f R C ∧ [PyData.str (nmrel r1 c1 l1 f1 b0 b1 false), .str (nmrel r2 c2 l2 f2 b0 b1 false)].take (i + 1) = [PyData.str (nmrel r1 c1 l1 f1 b0 b1 false), .str (nmrel r2 c2 l2 f2 b0 b1 false)].take i ++ [PyData.str (nmrel r c l f b0 b1 false)] ∧
            [PyData.str (nmrel r1 c1 l1 f1 b0 b1 true), .str (nmrel r2 c2 l2 f2 b0 b1 true)].take (i + 1) = [PyData.str (nmrel r1 c1 l1 f1 b0 b1 true), .str (nmrel r2 c2 l2 f2 b0 b1 true)].take i ++ [PyData.str (nmrel r c l f b0 b1 true)] := by
          match i, hd with
          | 0, hd =>
            simp [zipD] at hd
            exact ⟨r1, c1, l1, f1, R1, C1, hd.symm, G1, rfl, rfl⟩
          | 1, hd =>
            simp [zipD] at hd
            exact ⟨r2, c2, l2, f2, R2, C2, hd.symm, G2, rfl, rfl⟩
          | i + 2, hd => simp [zipD] at hd
        obtain ⟨r, c, l, f, R, C, rfl, G, e1, e2⟩ := key
        have hl1 : ([PyData.str (nmrel r1 c1 l1 f1 b0 b1 false), .str (nmrel r2 c2 l2 f2 b0 b1 false)].take i).length ≤ 2 := by simp; omega
        have hl2 : ([PyData.str (nmrel r1 c1 l1 f1 b0 b1 true), .str (nmrel r2 c2 l2 f2 b0 b1 true)].take i).length ≤ 2 := by simp; omega
        rw [e1, e2]
        generalize ([PyData.str (nmrel r1 c1 l1 f1 b0 b1 false), .str (nmrel r2 c2 l2 f2 b0 b1 false)].take i) = ps at *
        generalize ([PyData.str (nmrel r1 c1 l1 f1 b0 b1 true), .str (nmrel r2 c2 l2 f2 b0 b1 true)].take i) = qs at *
        refine ⟨_, Asg.tuple (.cons (Asg.name (.inl rfl)) (fun _ => rfl) (.cons (Asg.name (.inl rfl)) (fun _ => rfl) .nil)), ?_⟩
        refine Ex.weaken ?_ (Sub.both (Sub.both hS))
        have hfl := G.fl
        have hff := G.ff
        have hr0 := G.r0
        have hc0 := G.c0
        have hR0 := G.R0
        have hR1 := G.R1
        have hC0 := G.C0
        have hC1 := G.C1
        have hr1 := G.r1
        have hr2 := G.r2
        have hc1 := G.c1
        have hc2 := G.c2
        have cF := (nmrel_call r c l f b0 b1 (by omega) (by omega) (by omega) (by omega) (by omega) (by omega)).2
        have cT := (nmrel_call r c l f b0 b1 (by omega) (by omega) (by omega) (by omega) (by omega) (by omega)).1 (.int 1) true TruJ.int
        have cN := (nmrel_callN r c l f (by omega) (by omega) (by omega) (by omega) (by omega) (by omega)).2
        have lF : Ln (nmrel r c l f b0 b1 false) 40 := Ln.nmrel (by omega) (by omega) (by omega) (by omega)
        have lT : Ln (nmrel r c l f b0 b1 true) 40 := Ln.nmrel (by omega) (by omega) (by omega) (by omega)
        have lN : Ln (nmrelN r c l f false) 40 := Ln.nmrelN (by omega) (by omega) (by omega) (by omega)
        refine Ex.cons (Ex1.unpack (ds := [.int r, .int c, .int l, .int f]) (Ev.name (by rfl)) (.cons (Asg.name (.inl rfl)) (fun _ => rfl) (.cons (Asg.name (.inl rfl)) (fun _ => rfl) (.cons (Asg.name (.inl rfl)) (fun _ => rfl) (.cons (Asg.name (.inl rfl)) (fun _ => rfl) .nil)))) ?_)
        refine Ex.cons ?_
        refine' Ex1.append0 (x := "plain") (a := pl) (ds := ps) (d := .str (nmrel r c l f b0 b1 false)) ?a0 ?a1 ?a2 (by omega) ?a3
        case a0 => rfl
        case a3 => rfl
        case a1 =>
          refine' Ev.callG ?b1 ?b2 ?b3 (cF.le (Nat.le_of_ble_eq_true rfl)) (List.cons_ne_nil _ _)
          case b1 => walk_at "mv_glob"
          case b2 => walk_at "mv_callee"
          case b3 => walk_at "mv_args"
        refine Ex.cons (Ex1.guard ?g1 ?g2)
        case g1 =>
          cases wh with
          | false => exact EvT.and2F (EvT.of_value (Ev.name (by rfl)) TruJ.bool)
          | true =>
            refine EvT.and2T (EvT.of_value (Ev.name (by rfl)) TruJ.bool) (EvT.cmp ?c1 (Ev.name (by rfl)) (CmpJ.dneR (d := T4 R C l f)))
            case c1 =>
              refine' Ev.eq (Ev.callG ?d1 ?d2 (.cons (EvA.of (Ev.lastOwn (a := pl) (Ev.name (by rfl)) (.head _) (by simp) (by simp; omega))) .nil) ((plain_call _ (Ln.k lF (by decide))).le (Nat.le_of_ble_eq_true rfl)) (List.cons_ne_nil _ _)) (congrArg D.py (G.w rfl))
              case d1 => walk_at "mv_glob"
              case d2 => walk_at "mv_callee"
        refine Ex.cons ?_
        refine' Ex1.assign (d := .str (nmrel r c l f b0 b1 true)) ?e1 (.inl rfl) ?e2
        case e1 =>
          refine' Ev.callG ?f1 ?f2 ?f3 (cT.le (Nat.le_of_ble_eq_true rfl)) (List.cons_ne_nil _ _)
          case f1 => walk_at "mv_glob"
          case f2 => walk_at "mv_callee"
          case f3 => walk_at "mv_args"
        refine Ex.cons (Ex1.guard ?i1 ?i2)
        case i1 =>
          refine EvT.cmp ?j1 (Ev.name (by rfl)) (CmpJ.dneR (d := T4 R C l f))
          case j1 =>
            refine' Ev.eq (Ev.callG ?k1 ?k2 ?k3 ((round_call _ b0 b1 re (Ln.k lT (by decide)) hre).le (Nat.le_of_ble_eq_true rfl)) (List.cons_ne_nil _ _)) (congrArg D.py G.rd)
            case k1 => walk_at "mv_glob"
            case k2 => walk_at "mv_callee"
            case k3 => walk_at "mv_args"
        refine Ex.cons ?_
        refine' Ex1.assign (d := .str (nmrelN r c l f false)) ?l1 (.inl rfl) ?l2
        case l1 =>
          refine' Ev.callG ?m1 ?m2 ?m3 (cN.le (Nat.le_of_ble_eq_true rfl)) (List.cons_ne_nil _ _)
          case m1 => walk_at "mv_glob"
          case m2 => walk_at "mv_callee"
          case m3 => walk_at "mv_args"
        refine Ex.cons (Ex1.guard ?n1 ?n2)
        case n1 =>
          by_cases h0 : l = 0 ∧ f = 0
          · refine EvT.eq (EvT.or2 (b := false) (c := false) (EvT.and2F (EvT.eq (EvT.cmp (Ev.bin (Ev.name (by rfl)) (Ev.name (by rfl)) BinJ.add) Ev.int CmpJ.gt) (decide_eq_false (by omega)))) (EvT.and2T (EvT.eq (EvT.cmp (Ev.bin (Ev.name (by rfl)) (Ev.name (by rfl)) BinJ.add) Ev.int CmpJ.ieq) (decide_eq_true (by omega))) (EvT.cmp ?o1 (Ev.name (by rfl)) (CmpJ.dneR (d := T4 R C l f))))) rfl
            case o1 =>
              refine' Ev.eq (Ev.callG ?p1 ?p2 ?p3 ((plain_call _ (Ln.k lN (by decide))).le (Nat.le_of_ble_eq_true rfl)) (List.cons_ne_nil _ _)) (congrArg D.py (by rw [nmrelN_none h0]; exact G.p h0.1 h0.2))
              case p1 => walk_at "mv_glob"
              case p2 => walk_at "mv_callee"
              case p3 => walk_at "mv_args"
          · refine EvT.eq (EvT.or2 (b := false) (c := false) (EvT.and2T (EvT.eq (EvT.cmp (Ev.bin (Ev.name (by rfl)) (Ev.name (by rfl)) BinJ.add) Ev.int CmpJ.gt) (decide_eq_true (by omega))) (EvT.cmp (Ev.name (by rfl)) (Ev.name (by rfl)) (by rw [nmrelN_some (b0 := b0) (b1 := b1) h0]; exact sne_self))) (EvT.and2F (EvT.eq (EvT.cmp (Ev.bin (Ev.name (by rfl)) (Ev.name (by rfl)) BinJ.add) Ev.int CmpJ.ieq) (decide_eq_false (by omega))))) rfl
        have cD := display_call r c l f hfl hff (by omega) (by omega) (by omega) (by omega) (by omega) (by omega)
        have eD : shown c f (lets C.toNat) ++ shown r l (dec (R + 1)) = shown c f (lets c.toNat) ++ shown r l (dec (r + 1)) := by
          have x1 : shown c f (lets C.toNat) = shown c f (lets c.toNat) := by
            rcases hff with h | h
            · rw [hc0 h]
            · exact shown_one h
          have x2 : shown r l (dec (R + 1)) = shown r l (dec (r + 1)) := by
            rcases hfl with h | h
            · rw [hr0 h]
            · exact shown_one h
          rw [x1, x2]
        have lC : Ln (lets C.toNat) 40 := (Ln.lets (by omega)).up (by decide)
        have lR : Ln (dec (R + 1)) 40 := (Ln.dec (by omega) (by omega)).up (by decide)
        refine Ex.cons (Ex1.guard ?q1 ?q2)
        case q1 =>
          refine EvT.cmp ?r1 (Ev.eq (Ev.bin ?r2 ?r3 (BinJ.addL (Ln.shown (by omega) (by omega) lC) (Ln.shown (by omega) (by omega) lR) (by decide))) (congrArg D.str eD)) sne_self
          case r1 =>
            refine' Ev.callG ?s1 ?s2 ?s3 (cD.le (Nat.le_of_ble_eq_true rfl)) (List.cons_ne_nil _ _)
            case s1 => walk_at "mv_glob"
            case s2 => walk_at "mv_callee"
            case s3 => walk_at "mv_args"
          case r2 =>
            refine' Ev.callG ?t1 ?t2 (.cons (EvA.of (Ev.name (by rfl))) (.cons (EvA.of (Ev.name (by rfl))) (.cons (EvA.of (Ev.callG ?t3 ?t4 (.cons (EvA.of (Ev.sub (Ev.name (d := .py (T4 R C l f)) (by rfl)) Ev.int (SubJ.tup (by decide) (by rfl)))) .nil) ((colname_call C (by omega) (by omega)).le (Nat.le_of_ble_eq_true rfl)) (List.cons_ne_nil _ _))) .nil))) ((shown_call c f _ (by omega) (by omega) lC).le (Nat.le_of_ble_eq_true rfl)) (List.cons_ne_nil _ _)
            case t1 => walk_at "mv_glob"
            case t2 => walk_at "mv_callee"
            case t3 => walk_at "mv_glob"
            case t4 => walk_at "mv_callee"
          case r3 =>
            refine' Ev.callG ?u1 ?u2 (.cons (EvA.of (Ev.name (by rfl))) (.cons (EvA.of (Ev.name (by rfl))) (.cons (EvA.of (Ev.callG ?u3 ?u4 (.cons (EvA.of (Ev.bin (Ev.sub (Ev.name (d := .py (T4 R C l f)) (by rfl)) Ev.int (SubJ.tup (by decide) (by rfl))) Ev.int BinJ.add)) .nil) (CallJ.str (by omega)) (List.cons_ne_nil _ _))) .nil))) ((shown_call r l _ (by omega) (by omega) lR).le (Nat.le_of_ble_eq_true rfl)) (List.cons_ne_nil _ _)
            case u1 => walk_at "mv_glob"
            case u2 => walk_at "mv_callee"
            case u3 => walk_at "mv_glob"
            case u4 => walk_at "mv_callee"
        refine Ex.cons ?_
        refine' Ex1.append1 (x := "parts") (a := pa) (ds := qs) (d := .str (nmrel r c l f b0 b1 true)) ?v0 ?v1 ?v2 (by omega) ?v3
        case v0 => rfl
        case v3 => rfl
        case v1 => walk_at "mv_ev"
        refine Ex.nil ⟨?_, rfl⟩
        exact .skip (.skip (.skip (.skip (.skip (.skip (.skip (.skip Sub.refl)))))))
      case fin =>
        rintro ρ μ ⟨hS, rfl⟩
        refine Ex.weaken ?_ hS
        refine Ex.freeze (μ₁ := []) (x := "plain") (a := pl) (ds := [PyData.str (nmrel r1 c1 l1 f1 b0 b1 false), .str (nmrel r2 c2 l2 f2 b0 b1 false)]) (by rfl) ?_
        refine Ex.freeze (μ₁ := []) (μ₂ := []) (x := "parts") (a := pa) (ds := [PyData.str (nmrel r1 c1 l1 f1 b0 b1 true), .str (nmrel r2 c2 l2 f2 b0 b1 true)]) (by rfl) ?_
        have hfl1 := G1.fl
        have hff1 := G1.ff
        have hr01 := G1.r0
        have hc01 := G1.c0
        have hR01 := G1.R0
        have hC01 := G1.C0
        have hC11 := G1.C1
        have hr11 := G1.r1
        have hr21 := G1.r2
        have hc11 := G1.c1
        have hc21 := G1.c2
        have hfl2 := G2.fl
        have hff2 := G2.ff
        have hr02 := G2.r0
        have hc02 := G2.c0
        have hR02 := G2.R0
        have hC02 := G2.C0
        have hC12 := G2.C1
        have hr12 := G2.r1
        have hr22 := G2.r2
        have hc12 := G2.c1
        have hc22 := G2.c2
        have lF1 : Ln (nmrel r1 c1 l1 f1 b0 b1 false) 40 := Ln.nmrel (by omega) (by omega) (by omega) (by omega)
        have lT1 : Ln (nmrel r1 c1 l1 f1 b0 b1 true) 40 := Ln.nmrel (by omega) (by omega) (by omega) (by omega)
        have lF2 : Ln (nmrel r2 c2 l2 f2 b0 b1 false) 40 := Ln.nmrel (by omega) (by omega) (by omega) (by omega)
        have lT2 : Ln (nmrel r2 c2 l2 f2 b0 b1 true) 40 := Ln.nmrel (by omega) (by omega) (by omega) (by omega)
        have e1 : rngrel r1 (r2 + 1) c1 (c2 + 1) l1 l2 f1 f2 b0 b1 true = nmrel r1 c1 l1 f1 b0 b1 true ++ Str.ofString ":" ++ nmrel r2 c2 l2 f2 b0 b1 true := by
          unfold rngrel; rw [show r2 + 1 - 1 = r2 from by omega, show c2 + 1 - 1 = c2 from by omega]
        have e2 : rngrel r1 (r2 + 1) c1 (c2 + 1) l1 l2 f1 f2 b0 b1 false = nmrel r1 c1 l1 f1 b0 b1 false ++ Str.ofString ":" ++ nmrel r2 c2 l2 f2 b0 b1 false := by
          unfold rngrel; rw [show r2 + 1 - 1 = r2 from by omega, show c2 + 1 - 1 = c2 from by omega]
        have e3 : rngrelN r1 (r2 + 1) c1 (c2 + 1) l1 l2 f1 f2 = if l1 + l2 + f1 + f2 > 0 then nmrel r1 c1 l1 f1 b0 b1 true ++ Str.ofString ":" ++ nmrel r2 c2 l2 f2 b0 b1 true else nmrel r1 c1 l1 f1 b0 b1 false ++ Str.ofString ":" ++ nmrel r2 c2 l2 f2 b0 b1 false := by
          unfold rngrelN; rw [show r2 + 1 - 1 = r2 from by omega, show c2 + 1 - 1 = c2 from by omega]
          by_cases h : l1 = 0 ∧ l2 = 0 ∧ f1 = 0 ∧ f2 = 0
          · rw [if_pos h, if_neg (by omega), nmrelN_none (by omega), nmrelN_none (by omega)]
            unfold nmrel
            rw [if_pos (by omega), if_pos (by omega)]
          · rw [if_neg h, if_pos (by omega), nmrelN_true (b0 := b0) (b1 := b1), nmrelN_true (b0 := b0) (b1 := b1)]
        have cR := rngrel_call r1 (r2 + 1) c1 (c2 + 1) l1 l2 f1 f2 b0 b1 (by omega) (by omega) (by omega) (by omega) (by omega) (by omega) (by omega) (by omega) (by omega) (by omega) (by omega) (by omega)
        have cRT := cR.1 (.int 1) true TruJ.int
        have cRF := cR.2
        have cRN := rngrelN_call r1 (r2 + 1) c1 (c2 + 1) l1 l2 f1 f2 (by omega) (by omega) (by omega) (by omega) (by omega) (by omega) (by omega) (by omega) (by omega) (by omega) (by omega) (by omega)
        rw [e1] at cRT
        rw [e2] at cRF
        rw [e3] at cRN
        generalize nmrel r1 c1 l1 f1 b0 b1 true = t1 at *
        generalize nmrel r2 c2 l2 f2 b0 b1 true = t2 at *
        generalize nmrel r1 c1 l1 f1 b0 b1 false = u1 at *
        generalize nmrel r2 c2 l2 f2 b0 b1 false = u2 at *
        refine Ex.cons ?_
        refine' Ex1.assign (d := .tup [.int r1, .int (r2 + 1), .int c1, .int (c2 + 1)]) ?w1 (.inl rfl) ?w2
        case w1 => walk_at "mv_ev"
        refine Ex.cons ?_
        refine' Ex1.assign (d := .tup [.int l1, .int l2, .int f1, .int f2]) ?w3 (.inl rfl) ?w4
        case w3 => walk_at "mv_ev"
        refine Ex.cons (Ex1.guard ?w5 ?w6)
        case w5 =>
          refine EvT.cmp ?x1 ?x2 (sne_self (x := t1 ++ Str.ofString ":" ++ t2))
          case x1 =>
            refine' Ev.callG ?x3 ?x4 ?x5 (cRT.le (Nat.le_of_ble_eq_true rfl)) (List.cons_ne_nil _ _)
            case x3 => walk_at "mv_glob"
            case x4 => walk_at "mv_callee"
            case x5 => walk_at "mv_args"
          case x2 => walk_at "mv_ev"
        refine Ex.cons ?_
        refine' Ex1.assign (d := .str (u1 ++ Str.ofString ":" ++ u2)) ?w7 (.inl rfl) ?w8
        case w7 => walk_at "mv_ev"
        refine Ex.cons (Ex1.guard ?w9 ?w10)
        case w9 =>
          refine EvT.cmp ?y1 ?y2 (sne_self (x := u1 ++ Str.ofString ":" ++ u2))
          case y1 =>
            refine' Ev.callG ?y3 ?y4 ?y5 (cRF.le (Nat.le_of_ble_eq_true rfl)) (List.cons_ne_nil _ _)
            case y3 => walk_at "mv_glob"
            case y4 => walk_at "mv_callee"
            case y5 => walk_at "mv_args"
          case y2 => walk_at "mv_ev"
        refine Ex.cons ?_
        refine' Ex1.ret (d := .bool true) ?z4 rfl (.bool _)
        refine Ev.cmp ?z5 (d2 := .str (if l1 + l2 + f1 + f2 > 0 then t1 ++ Str.ofString ":" ++ t2 else u1 ++ Str.ofString ":" ++ u2)) ?z6 seq_self
        case z5 =>
          refine' Ev.callG ?z7 ?z8 ?z9 (cRN.le (Nat.le_of_ble_eq_true rfl)) (List.cons_ne_nil _ _)
          case z7 => walk_at "mv_glob"
          case z8 => walk_at "mv_callee"
          case z9 => walk_at "mv_args"
        case z6 =>
          have cS : CallJ 4 (.builtin "sum") [.tup [.int l1, .int l2, .int f1, .int f2]] (.int (l1 + l2 + f1 + f2)) := (CallJ.sum (ns := [l1, l2, f1, f2])).eq (by simp [Int.add_assoc])
          have tst : ∀ Γ : Fc, True := fun _ => trivial
          by_cases h : l1 + l2 + f1 + f2 > 0
          · rw [if_pos h]
            refine' Ev.iteT (EvT.eq (EvT.cmp (Ev.callG ?aa1 cle_b (.cons (EvA.of (Ev.name (by rfl))) .nil) (cS) (List.cons_ne_nil _ _)) Ev.int CmpJ.gt) (decide_eq_true h)) ?aa2
            case aa1 => walk_at "mv_glob"
            case aa2 => walk_at "mv_ev"
          · rw [if_neg h]
            refine' Ev.iteF (EvT.eq (EvT.cmp (Ev.callG ?aa3 cle_b (.cons (EvA.of (Ev.name (by rfl))) .nil) (cS) (List.cons_ne_nil _ _)) Ev.int CmpJ.gt) (decide_eq_false h)) ?aa4
            case aa3 => walk_at "mv_glob"
            case aa4 => walk_at "mv_ev"
end

/-! ### NP -/

/-! ## range -/
theorem SrcJ.range {Γ : Fc} {ρ μ zx zp cpos e1 e2} (hz : Ev Γ ρ μ (.Name zx zp) (.val (.type "range"))) (h : EvAll Γ ρ μ [e1, e2] [.int 3, .int 7])
    (hstar : ∀ r, (backTo r (starEach [e1, e2] Γ.env)).any (·.1) = false := by intro _; rfl) (hst : starEach [e1, e2] Γ.env = (false, eval e1 Γ.env) :: starEach [e2] Γ.env := by rfl) :
    SrcJ Γ ρ μ (.Call (.Name zx zp) [e1, e2] [] cpos) [.int 3, .int 4, .int 5, .int 6] := ⟨fun s Q E S k => by
  refine callType_ev hz h hstar hst s _ E S fun vs as s1 g1 r1 n1 => ?_
  have S1 := S.grow g1
  obtain ⟨t, u, rfl⟩ := two_ii r1
  refine call_range_2 ?_
  refine wpAny_pyIter_range (IsRange.new _ _ _ _ _ _ _) (small_one (by decide) (by decide) (by decide) (by decide)) ?_
  have e4 : Builtin.Range.rangeSize 3 7 1 = 4 := by decide
  rw [e4]
  have hI : (s1.heap.push { cls := .type "range", data := .fields #[.int 3 t, .int 7 u, .int 1 s1.toks] }).objs.size = s1.heap.objs.size + 1 := Heap.size_push ..
  have ga := Grow.push s1 { cls := .type "range", data := .fields #[.int 3 t, .int 7 u, .int 1 s1.toks] }
  have gb := ga.trans (Grow.tok _ (s1.toks + 1))
  refine k s1 _ _ _ _ _ _ g1 (gb.trans (Grow.push _ _)) (by
    show _ ≤ ((s1.heap.push _).push _).objs.size
    rw [Heap.size_push, Heap.size_push]; exact Nat.le_trans (Nat.le_succ _) (Nat.le_succ _)) (Walks.range S1.amb.hnd _ 3 1 4) (Heap.get?_push_size _ rfl) (fun b hb => ?_) (fun b hb => ?_) fun i v hP hi => ?_
  · rw [List.mem_singleton.mp hb]
    show _ < ((s1.heap.push _).push _).objs.size
    simp only [Heap.size_push]; exact Nat.lt_succ_self _
  · rw [List.mem_singleton.mp hb]
    refine Heap.get?_none_of_le ?_
    show _ ≤ (s1.heap.push _).objs.size
    rw [Heap.size_push]; exact Nat.le_succ _
  · obtain ⟨w, rfl⟩ := hP
    have hi : i < 4 := hi
    match i, hi with
    | 0, _ => exact ⟨_, [], rfl, RdV.int _ _, fun _ x => nomatch x⟩
    | 1, _ => exact ⟨_, [], rfl, RdV.int _ _, fun _ x => nomatch x⟩
    | 2, _ => exact ⟨_, [], rfl, RdV.int _ _, fun _ x => nomatch x⟩
    | 3, _ => exact ⟨_, [], rfl, RdV.int _ _, fun _ x => nomatch x⟩⟩

/-! ## a comprehension, stored at once -/
theorem Ex1.assignComp {Γ : Fc} {ρ ρc μ} {ds : List PyData} {elt iter : Expr} {px py pos spos : Pos} {scope : Scope} {cl : List (Str × Addr)} {x y : String} {N : Loc → Mu → Prop} {R} (fz : PyData → Int)
    (hsrc : SrcJ Γ ρ μ iter ds) (hds : ds.length ≤ 1000) (hint : ∀ d ∈ ds, ∃ i, d = .int i)
    (hclos : closureFor scope Γ.env = pure cl) (hkind : scope.kind = .function) (hcell : ∀ y ∈ scope.names, y.2 ≠ .cell) (hnames : ∀ y ∈ scope.names, y.2 = .local → scope.names.lookup y.1 = some .local)
    (hx : scope.names.lookup (Str.ofString x) = some .local) (hcl : ∀ y c, cl.lookup y = some c → Γ.env.cells.lookup y = some c) (hcap : CapOk Γ ρ ρc scope cl)
    (helt : ∀ d ∈ ds, ∀ C h₀, Ev (Γ.comp h₀ scope cl C) ((x, .py d) :: ρc) [] elt (.int (fz d)))
    (hsw : swapsWith (.ListComp elt [⟨.Name (Str.ofString x) px, iter, [], 0⟩] scope pos) (some (.Name (Str.ofString y) py)) spos.line Γ.env = pure true)
    (hy : Γ.env.kindOf (Str.ofString y) = some .local) (k : N ((y, .lst (ds.map fun d => .int (fz d))) :: ρ) μ)
    (hs : ∀ x, foldedSetIterable iter Γ.env x = pure x := by intro _; rfl) :
    Ex1 Γ ρ μ (.Assign [.Name (Str.ofString y) py] (.ListComp elt [⟨.Name (Str.ofString x) px, iter, [], 0⟩] scope pos) spos) N R := ⟨fun s Q E S kn kr => by
  have kd : Γ.env.scope.kind = .function := by obtain ⟨m, cm, W⟩ := S; exact W.ok.kind
  refine wpAny_Assign_ListComp_free (fun _ => true) (fun v y => ∃ i t, v = .int i t ∧ ∃ u, y = .int (fz (.int i)) u) hsw hclos hcell hkind hnames hx hy (by rw [kd]; rfl) ?_ hs
  refine hsrc.run s _ E S fun s₁ s₂ I fp wr P St₀ g1 g2 hsz W hst hfp hwr hP => ?_
  have S1 := S.grow g1
  have Wb : Walks PG Γ.w Γ.A I fp wr ds.length (fun i v => i < ds.length ∧ P i v) St₀ := W.bound
  obtain ⟨m, cm, V⟩ := id S1
  have Lsome : ∃ o, s₁.heap.get? Γ.env.locals = some o := by obtain ⟨o, _, _, ho, _⟩ := V.fr.ns; exact ⟨o, ho⟩
  have Lwr : Γ.env.locals ∉ wr := fun h => by
    obtain ⟨o, ho⟩ := Lsome
    rw [hwr _ h] at ho; cases ho
  have Ln2 : s₂.heap.Ns Γ.env.locals m := (V.fr.after g2.1).ns
  have up : ∀ (s₃ : Shared), (∀ b o, b ∉ wr → s₂.heap.get? b = some o → s₃.heap.get? b = some o) → s₁.heap.StaysIn s₃.heap := fun s₃ hk b o e => hk b o (fun m => by rw [hwr b m] at e; cases e) (g2.1 b o e)
  refine ⟨I, fp, wr, ds.length, _, St₀, m, rfl, Wb, by rw [sizeLine_eq]; omega, hst, hfp, Lwr, Ln2, ⟨fun C i v s₃ m₃ E' hC hPi hn hm hk _ => ?_, fun C i v s₃ m₃ E' hC hPi hp hn hm hk _ => ?_⟩, fun D h' tk ys vs hD hlD hplD hlen hPv hF hns hk => ?_⟩
  · rw [List.forIn_nil]
    exact wpAny_pure ⟨rfl, s₃.heap, s₃.toks, rfl, fun _ _ e => e⟩
  · obtain ⟨d, as, e, hr, ha⟩ := hP i v hPi.2 hPi.1
    have hd : d ∈ ds := List.mem_of_getElem? e
    have S3 := S1.comp hkind hx hcl hcap (Nat.le_trans hsz hC) hn hm (up s₃ hk) hr
    obtain ⟨j, rfl⟩ := hint d hd
    obtain ⟨t, rfl⟩ := rdv_int hr
    refine (helt _ hd C s₁.heap).run s₃ _ E' S3 fun y as' s' g' r' _ => ⟨⟨j, t, rfl, ?_⟩, keeps_of_grow g'⟩
    cases r' with
    | int _ u => exact ⟨u, rfl⟩
  · have st1 : ∀ b o, b ≠ Γ.env.locals → s₁.heap.get? b = some o → h'.get? b = some o := fun b o hb e => hk b o hb (fun m => by rw [hwr b m] at e; cases e) (g2.1 b o e)
    have hL0 : Γ.h₀.get? Γ.env.locals = Option.none := Heap.get?_none_of_le V.fr.above
    obtain ⟨n, hpl⟩ := hplD
    have fe : vs.filter (fun _ => true) = vs := List.filter_eq_self.mpr fun _ _ => rfl
    rw [fe] at hF
    have hr : ∀ F h, RdVs F h ys.toList (ds.map fun d => .int (fz d)) [] := fun F h => by
      have key : ∀ (ds' : List PyData) (vs' ys' : List Value), vs'.length = ds'.length → (∀ (j : Nat) v, vs'[j]? = some v → ∃ d as, ds'[j]? = some d ∧ RdV Γ.F s₁.heap v d as) → Paired (fun v y => ∃ i t, v = .int i t ∧ ∃ u, y = .int (fz (.int i)) u) vs' ys' → RdVs F h ys' (ds'.map fun d => .int (fz d)) [] := by
        intro ds'
        induction ds' with
        | nil =>
          intro vs' ys' h1 _ h2
          have : vs' = [] := List.length_eq_zero_iff.mp h1
          subst this
          cases h2; exact .nil
        | cons d ds' ih =>
          intro vs' ys' h1 h3 h2
          cases h2 with
          | nil => simp at h1
          | @cons v y vs'' ys'' h4 h5 =>
            obtain ⟨d', as, e, hr⟩ := h3 0 v rfl
            have : d = d' := by simpa using e
            subst this
            obtain ⟨i, t, rfl, u, rfl⟩ := h4
            cases hr
            exact RdVs.cons (as := []) (.int _ _) (ih vs'' ys'' (by simpa using h1) (fun j v e => by simpa using h3 (j + 1) v (by simpa using e)) h5)
      refine key ds vs ys.toList hlen (fun j v e => ?_) hF
      obtain ⟨d, as, e', hr, _⟩ := hP j v (hPv j v e).2 (hPv j v e).1
      exact ⟨d, as, e', hr⟩
    have DL : D ≠ Γ.env.locals := fun q => by
      obtain ⟨o, ho⟩ := Lsome
      rw [q, g2.1 _ _ ho] at hD; cases hD
    have D1 : s₁.heap.get? D = Option.none := by
      cases q : s₁.heap.get? D with
      | none => rfl
      | some o => rw [g2.1 _ _ q] at hD; cases hD
    have tz : ∀ a o vs n, a = Γ.env.locals → a ∉ Γ.F → s₁.heap.get? a = some o → o.cls = .type "tuple" → o.data = .seq vs n → False := fun a o vs n q _ ho _ hd => by
      subst q
      obtain ⟨o', es, ep, ho', hd', _⟩ := V.fr.ns
      rw [ho] at ho'; cases ho'
      rw [hd] at hd'; cases hd'
    have tk' : ∀ b o, s₁.heap.get? b = some o → ¬ b = Γ.env.locals → h'.get? b = some o := fun b o e q => st1 b o q e
    have fin : St Γ ((y, .lst (ds.map fun d => .int (fz d))) :: ρ) μ { s₂ with heap := h', toks := tk } := by
      refine ⟨_, cm, V.ok, ⟨hns, fun b o e => ?_, V.fr.above⟩, fun z c e => ?_, fun z d' e => ?_, fun a ds' e => ?_, V.nod, fun a hm => ?_⟩
      · refine tk' b o (V.fr.keep b o e) fun q => ?_
        rw [q, hL0] at e; cases e
      · obtain ⟨o, ho, hd⟩ := V.cell z c e
        refine ⟨o, tk' _ _ ho fun q => ?_, hd⟩
        obtain ⟨o', es, ep, ho', hd', _⟩ := V.fr.ns
        rw [← q, ho] at ho'; cases ho'
        rw [hd] at hd'; cases hd'
      · rw [List.lookup_cons] at e
        by_cases q : z = y
        · subst q
          rw [beq_self_eq_true] at e
          cases e
          refine ⟨.ref D, [D], ?_, RdV.list hpl rfl rfl (hr _ _), fun a ha hz => ?_⟩
          · unfold Fc.var
            rw [hy]
            simp
          · rw [List.mem_singleton.mp ha] at hz
            obtain ⟨o, ho⟩ := S1.mu_some hz
            rw [D1] at ho; cases ho
        · rw [show (z == y) = false from beq_eq_false_iff_ne.mpr q] at e
          obtain ⟨v', as', h1, h2, h3⟩ := V.loc z d' e
          refine ⟨v', as', ?_, h2.off _ tz tk' fun a ha q => h3 a ha (q ▸ .head _), h3⟩
          rw [Fc.var_local q (y := y) (m := m)]
          · exact h1
          · intro u hu; simp [hu]
      · obtain ⟨vs', as', nn, ho, h2, h3, h4⟩ := V.mu a ds' e
        refine ⟨vs', as', nn, tk' a _ ho fun q => ?_, rdvs_off _ tz tk' h2 fun b hb q => h3 b hb (q ▸ .head _), h3, h4⟩
        subst q
        obtain ⟨o', es, ep, ho', hd', _⟩ := V.fr.ns
        rw [ho] at ho'; cases ho'
        cases hd'
      · obtain ⟨o, e⟩ := V.forb a hm
        by_cases q : a = Γ.env.locals
        · subst q
          obtain ⟨o', _, _, ho', _⟩ := hns
          exact ⟨o', ho'⟩
        · exact ⟨o, tk' a o e q⟩
    refine kn _ _ _ k fin ⟨fun a o e na _ => st1 a o (fun q => na (q ▸ .head _)) (g1.1 _ _ e), fun a o e => ?_, ?_, fun a hm => .inl hm⟩
    · by_cases q : a = Γ.env.locals
      · subst q
        obtain ⟨o', _, _, ho', _⟩ := hns
        exact ⟨o', ho'⟩
      · exact ⟨o, st1 a o q (g1.1 _ _ e)⟩
    · obtain ⟨_, ha, ta, rfl⟩ := g1
      obtain ⟨_, hb, tb, rfl⟩ := g2
      exact ⟨h', tk, rfl⟩⟩

/-! ### NQ -/

theorem Ev.orB {Γ : Fc} {ρ μ e1 e2 pos} {b1 b2 : Bool} (h1 : Ev Γ ρ μ e1 (.bool b1)) (h2 : b1 = false → Ev Γ ρ μ e2 (.bool b2)) : Ev Γ ρ μ (.BoolOp .Or [e1, e2] pos) (.bool (b1 || b2)) := ⟨fun s Q E S k => by
  refine wpAny_Or2 (h1.run s _ E S fun v as s1 g1 r1 n1 => ?_)
  cases r1 with
  | bool _ =>
    refine wpAny_truthy_bool ?_
    cases b1 with
    | true => exact k _ [] s1 g1 (RdV.bool _) (fun _ x => nomatch x)
    | false => exact (h2 rfl).run s1 Q E (S.grow g1) fun v as s2 g2 r2 n2 => k v as s2 (g1.trans g2) r2 n2⟩
theorem Ev.chain {Γ : Fc} {ρ μ l r1 r2 pos} {a b c : Int} (h : Ev Γ ρ μ l (.int a)) (h1 : Ev Γ ρ μ r1 (.int b)) (h2 : Ev Γ ρ μ r2 (.int c)) (hm : lastMarks [.LtE, .Lt] [r1, r2] = false := by rfl) : Ev Γ ρ μ (.Compare l [.LtE, .Lt] [r1, r2] pos) (.bool (decide (a ≤ b) && decide (b < c))) := ⟨fun s Q E S k => by
  refine Compare_chain (h.run s _ E S fun v as s1 g1 q1 n1 => ?_) hm
  refine chain_link (h1.run s1 _ E (S.grow g1) fun v2 as2 s2 g2 q2 n2 => ?_)
  cases q1 with
  | int _ t => cases q2 with
    | int _ u =>
      refine PyProof.Rows.le_int (wpAny_truthy_bool ?_)
      by_cases c1 : a ≤ b
      · rw [decide_eq_true c1] at k ⊢
        refine chain_last (h2.run s2 _ E ((S.grow g1).grow g2) fun v3 as3 s3 g3 q3 n3 => ?_)
        cases q3 with
        | int _ w => exact PyProof.Rows.lt_int (k _ [] s3 (g1.trans (g2.trans g3)) (RdV.bool _) (fun _ x => nomatch x))
      · rw [decide_eq_false c1] at k ⊢
        exact k _ [] s2 (g1.trans g2) (RdV.bool _) (fun _ x => nomatch x)⟩
theorem Ev.count {Γ : Fc} {ρ μ lc apos pos kk cpos} {ds : List PyData} (h : EvL Γ ρ μ lc ds) (hall : ds.all Spec.Shape.bool.has = true)
    (hbase : attributeBase lc (Str.ofString "count") Γ.env (eval lc Γ.env) = eval lc Γ.env := by rfl) (hline : (apos.endLine == pos.line) = true := by rfl) :
    Ev Γ ρ μ (.Call (.Attribute lc (Str.ofString "count") apos) [.Constant (.bool false) kk cpos] [] pos) (.int (Spec.countIn (.bool false) ds)) := ⟨fun s Q E S k => by
  refine wpAny_Call_method_lateS hbase (by rfl) hline ?_
  refine h.run s _ E S fun a ys n s' g hn ho hr => ?_
  refine ⟨"list", "list.count", PySem.F.plainAttrs_list, PySem.F.slot_list_count, PySem.F.type_list_count, ⟨_, ho, rfl⟩, fun b hb => by cases hb; exact ⟨_, ho, rfl⟩, ?_⟩
  refine callWith_builtin rfl ?_
  refine evalArgs_plain ?_
  refine spliced_cons (wpAny_Constant_bool (k := kk) (pos := cpos) (spliced_nil ?_))
  exact count_list_bools (hp := s'.heap) ⟨_, ho, rfl, n, rfl⟩ (RdVs.reads (hr [] s'.heap)) hall (k _ [] _ (g.trans (Grow.tok _ _)) (RdV.int _ _) (fun _ x => nomatch x))⟩

theorem CallJ.lenL {n : Nat} {l : List PyData} (hl : l.length < 1000) : CallJ n (.builtin "len") [.lst l] (.int l.length) := .of1 fun w A s v as F Q E am r k => by
  cases r with
  | @list a o vs m _ as ho hc hd hr =>
    have hs : vs.size = l.length := by simpa using readsAll_len hr
    refine PyProof.Rows.len_list ⟨o, ho, hc, m, hd⟩ (by omega) ?_
    rw [hs]
    exact k _ [] _ (Grow.tok s _) (RdV.int _ _) none_fresh
theorem TruJ.ints {l : List PyData} (hl : l.length < 2 ^ 62) : TruJ (.lst l) (!l.isEmpty) := ⟨fun w A s Q E v as F am r k => by
  cases r with
  | @list a o vs m _ as ho hc hd hr =>
    have hs : vs.toList.length = l.length := readsAll_len hr
    refine wpAny_truthy_list ⟨o, ho, hc, m, hd⟩ (by simp at hs; omega) ?_
    have e : (!vs.isEmpty) = (!l.isEmpty) := by
      congr 1
      cases l with
      | nil =>
        have : vs.size = 0 := by simpa using hs
        simp [Array.isEmpty, this]
      | cons d l =>
        have : vs.size ≠ 0 := by simp at hs; omega
        simp [Array.isEmpty, this]
    rw [e]
    exact k _ (Grow.tok s _)⟩
theorem Ev.mulL {Γ : Fc} {ρ μ kk p1 p2 e pos} {x n : Int} (h : Ev Γ ρ μ e (.int n)) (h0 : 0 ≤ n) (h1 : n < 1000) : Ev Γ ρ μ (.BinOp (.List [.Constant (.int x) kk p1] p2) .Mult e pos) (.lst (List.replicate n.toNat (.int x))) := ⟨fun s Q E S k => by
  refine wpAny_BinOp ?_
  refine wpAny_List (wpAny_items_cons (wpAny_Constant_int (wpAny_items_nil ⟨by rw [sizeLine_eq]; exact Nat.le_of_ble_eq_true rfl, ?_⟩)) rfl)
  have g1 : Grow s { s with heap := s.heap.push { cls := .type "list", data := .seq #[.int x s.toks] }, toks := s.toks + 1 } := (Grow.tok s (s.toks + 1)).trans (Grow.push { s with toks := s.toks + 1 } _)
  refine h.run _ _ E (S.grow g1) fun v2 as2 s2 g2 r2 n2 => ?_
  cases r2 with
  | int _ u =>
    have hl : s2.heap.get? s.heap.objs.size = some { cls := .type "list", dict := Option.none, data := .seq #[.int x s.toks] 0, slots := #[] } := g2.1 _ _ (Heap.get?_push_size _ rfl)
    refine wpAny_binaryOp_repeat_ref (T := "list") (U := "int") (by decide) ⟨_, hl, rfl⟩ (fun s' => typeIs_int s' n u) noFill_list_mul PySem.F.fills_int_mul PySem.F.slot_int_rmul repeat_list PySem.F.slot_int_index.lookup
      (call_meets PySem.F.slot_int_rmul (typeIs_int s2 n u) PySem.F.entry_int_rmul (PySem.F.args_int_rmul_2 _ _) (int___rmul___int_list n u s.heap.objs.size #[.int x s.toks] 0)
        ⟨hl, rfl, ⟨_, hl, rfl⟩, call_meets PySem.F.slot_list_mul ⟨_, hl, rfl⟩ PySem.F.entry_list_mul (PySem.F.args_list_mul_2 _ _)
          (AutoListH.list___mul___list_int_3 s.heap.objs.size #[.int x s.toks] 0 n u (by simp only [Builtin.List.listFitsIndex]; simp; omega) (by show ¬ _; first | omega | (simp; omega) | skip) (by have e1 : (#[Value.int x s.toks] : Array Value).size = 1 := rfl; simp only [Builtin.List.listTooLong, e1, sizeLine]; simp; omega))
          ⟨hl, ?_⟩⟩)
    have g3 := Grow.push s2 { cls := .type "list", data := .seq (List.foldl (fun x1 x2 => x1 ++ x2) #[] (List.replicate (if (#[Value.int x s.toks] : Array Value).isEmpty = true then 0 else n.toNat) #[Value.int x s.toks])) }
    refine k _ [s2.heap.objs.size] _ (g1.trans (g2.trans g3)) (RdV.list (n := 0) (Heap.get?_push_size _ rfl) rfl rfl ?_) fun a m => ?_
    · have key : ∀ (m : Nat) (acc : Array Value) (ds : List PyData) (F : List Addr) (hp : Heap), RdVs F hp acc.toList ds [] → RdVs F hp (List.foldl (fun x1 x2 => x1 ++ x2) acc (List.replicate m #[Value.int x s.toks])).toList (ds ++ List.replicate m (.int x)) [] := by
        intro m
        induction m with
        | zero => intro acc ds F hp hr; simpa using hr
        | succ m ih =>
          intro acc ds F hp hr
          rw [List.replicate_succ, List.foldl_cons, List.replicate_succ, List.append_cons]
          refine ih _ _ F hp ?_
          obtain ⟨bs, hb, hz⟩ := rdvs_append (RdV.int (F := F) (h := hp) x s.toks) hr
          have : bs = [] := by
            cases bs with
            | nil => rfl
            | cons b bs => exact (hz b (.head _)).elim (fun x => nomatch x) (fun x => nomatch x)
          subst this
          simpa using hb
      exact key n.toNat #[] [] _ _ .nil
    · rw [List.mem_singleton.mp m]
      exact ((S.grow g1).grow g2).fresh (as := [_]) (by intro a m; rw [List.mem_singleton.mp m]; exact Heap.get?_none_of_le (Nat.le_refl _)) _ (.head _)⟩
theorem Ev.sliceI {Γ : Fc} {ρ μ e e1 e2 p pos} {ns : List Int} {i j : Int} (h : Ev Γ ρ μ e (.lst (ns.map PyData.int))) (h1 : Ev Γ ρ μ e1 (.int i)) (h2 : Ev Γ ρ μ e2 (.int j)) (h0 : 0 ≤ i) (hj : 0 ≤ j) (hx : ns.length ≤ 1000)
    (ht : ∀ o r, letTemporaryGo e o r = pure () := by intro _ _; rfl) : Ev Γ ρ μ (.Subscript e (.Slice (some e1) (some e2) Option.none p) pos) (.lst (((ns.drop i.toNat).take (min j.toNat ns.length - i.toNat)).map PyData.int)) := ⟨fun s Q E S k => by
  refine wpAny_Subscript_Slice (T := "list") PySem.F.slot_list_getitem.lookup (h.run s _ E S fun v as s1 g1 r1 _ => ?_) ht
  refine wpAny_Slice ?_
  refine h1.run s1 _ E (S.grow g1) fun v1 as1 s2 g2 r2 _ => h2.run s2 _ E ((S.grow g1).grow g2) fun v2 as2 s3 g3 r3 _ => wpAny_pure ?_
  obtain ⟨l, vs, as', rfl, rfl, hL, hr⟩ := list_of r1
  cases r2 with
    | int _ u => cases r3 with
      | int _ w =>
        have hi := intsAre_of hr
        have hL3 : s3.heap.IsList l vs := by obtain ⟨o, ho, hc, nn, hd⟩ := hL; exact ⟨o, g3.1 _ _ (g2.1 _ _ ho), hc, nn, hd⟩
        have gs := Grow.push s3 { cls := .type "slice", data := .fields #[.int i u, .int j w, .none] }
        have hsz : vs.size = ns.length := by simpa using hi.length
        have hL4 : Heap.IsList (s3.heap.push { cls := .type "slice", data := .fields #[.int i u, .int j w, .none] }) l vs := by obtain ⟨o, ho, hc, nn, hd⟩ := hL3; exact ⟨o, gs.1 _ _ ho, hc, nn, hd⟩
        refine ⟨hL4.typeIs, ?_⟩
        refine wpAny_getItem_list_slice (vs := .none) (lo := some i) (hi := some j) (st := Option.none) hL4 (Heap.IsSliceOf.new _ _ _ _) (IsPart.int _ _) (IsPart.int _ _) IsPart.none (by simp) ?_ (by rw [sizeLine_eq]; omega)
        have hp := kmk_run (vs := vs.toList) (x := i) (y := j) hi h0 hj
        have gp := Grow.push { s3 with heap := s3.heap.push { cls := .type "slice", data := .fields #[.int i u, .int j w, .none] } } { cls := .type "list", data := .seq (slicePick vs (some i) (some j) Option.none) }
        refine k _ [(s3.heap.push { cls := .type "slice", data := .fields #[.int i u, .int j w, .none] }).objs.size] _ (g1.trans (g2.trans (g3.trans (gs.trans gp)))) (RdV.list (n := 0) (Heap.get?_push_size _ rfl) rfl rfl ?_) fun a m => ?_
        · exact rdvs_ints hp
        · rw [List.mem_singleton.mp m]
          exact ((((S.grow g1).grow g2).grow g3).grow gs).fresh (as := [_]) (by intro a m; rw [List.mem_singleton.mp m]; exact Heap.get?_none_of_le (Nat.le_refl _)) _ (.head _)⟩

/-! ### NR -/

abbrev L (t : Str) : List Nat := t.cps.toList
theorem L_app (x y : Str) : L (x ++ y) = L x ++ L y := by
  show (Str.append x y).cps.toList = _
  unfold Str.append; simp
theorem L_len (t : Str) : t.length = (L t).length := by simp [Str.length]
theorem L_R : L (Str.ofString "R") = [82] := by decide +kernel
theorem L_C : L (Str.ofString "C") = [67] := by decide +kernel
theorem L_S : L (Str.ofString "$") = [36] := by decide +kernel
theorem L_Rb : L (Str.ofString "R[") = [82, 91] := by decide +kernel
theorem L_Cb : L (Str.ofString "C[") = [67, 91] := by decide +kernel
theorem L_b : L (Str.ofString "]") = [93] := by decide +kernel
theorem L_m : L (Str.ofString "-") = [45] := by decide +kernel
theorem L_letter (i : Int) : L (letter i) = [65 + i.toNat] := rfl
theorem S1_eq (t : Str) (p : Nat) (c : String) (k : Nat) (hc : L (Str.ofString c) = [k]) : S1 t p c = (((L t).drop p).head? == some k) := by
  unfold S1 Mine.cut
  have e : (((p + 1 : Nat) : Int) - (p : Int)).toNat = 1 := by omega
  rw [e, Int.toNat_natCast]
  have hs : Str.ofString c = ⟨#[k]⟩ := by
    have : (Str.ofString c).cps = #[k] := by rw [← Array.toArray_toList (xs := (Str.ofString c).cps)]; exact congrArg List.toArray hc
    cases h : Str.ofString c with
    | mk cps => rw [h] at this; simp only at this; rw [this]
  rw [hs]
  rw [Bool.eq_iff_iff, beq_iff_eq, beq_iff_eq]
  cases hd : (L t).drop p with
  | nil => simp
  | cons x r => simp
def Dg (ds : List Nat) : Prop := ∀ c ∈ ds, 48 ≤ c ∧ c ≤ 57
def Lt (ds : List Nat) : Prop := ∀ c ∈ ds, 65 ≤ c ∧ c ≤ 90
theorem tw_app {q : Nat → Bool} : ∀ (ds rest : List Nat), (∀ c ∈ ds, q c = true) → (∀ c r, rest = c :: r → q c = false) → (ds ++ rest).takeWhile q = ds
  | [], [], _, _ => rfl
  | [], c :: r, _, h => by simp [h c r rfl]
  | d :: ds, rest, h1, h2 => by
    rw [List.cons_append, List.takeWhile_cons, if_pos (h1 d (.head _)), tw_app ds rest (fun c m => h1 c (.tail _ m)) h2]
theorem dig_at {t : Str} {p : Nat} {ds rest : List Nat} (h : (L t).drop p = ds ++ rest) (hd : Dg ds) (hr : ∀ c r, rest = c :: r → ¬ (48 ≤ c ∧ c ≤ 57)) : digV t p = ds.foldl dstep (-1) ∧ digE t p = p + ds.length := by
  have e := tw_app (q := isDig) ds rest (fun c m => decide_eq_true (hd c m)) (fun c r q => decide_eq_false (hr c r q))
  unfold digV digE
  rw [show t.cps.toList.drop p = ds ++ rest from h, e]
  exact ⟨rfl, rfl⟩
theorem let_at {t : Str} {p : Nat} {ds rest : List Nat} (h : (L t).drop p = ds ++ rest) (hd : Lt ds) (hr : ∀ c r, rest = c :: r → ¬ (65 ≤ c ∧ c ≤ 90)) : letV t p = ds.foldl lstep (-1) ∧ letE t p = p + ds.length := by
  have e := tw_app (q := isLet) ds rest (fun c m => decide_eq_true (hd c m)) (fun c r q => decide_eq_false (hr c r q))
  unfold letV letE
  rw [show t.cps.toList.drop p = ds ++ rest from h, e]
  exact ⟨rfl, rfl⟩
theorem drop_app {l a b : List Nat} {p : Nat} (h : l.drop p = a ++ b) : l.drop (p + a.length) = b := by
  rw [← List.drop_drop, h, List.drop_left]
/-! ### decimals -/
theorem L_dec {n : Int} (h : 0 ≤ n) : L (dec n) = (Nat.toDigits 10 n.toNat).map Char.toNat := by
  have := KE_signs n.toNat
  rw [Int.toNat_of_nonneg h] at this
  exact this
  where KE_signs (m : Nat) : (PySem.Str.ofString (toString ((m : Nat) : Int))).cps.toList = (Nat.toDigits 10 m).map Char.toNat := KIN.signs_num m
theorem dg_dec {n : Int} (h : 0 ≤ n) : Dg (L (dec n)) := by
  intro c hc
  rw [L_dec h] at hc
  obtain ⟨ch, hch, e⟩ := List.mem_map.mp hc
  have r := digit_range (Nat.isDigit_of_mem_toDigits (by decide) (by decide) hch)
  rw [← e]; exact r
theorem ne_dec {n : Int} (h : 0 ≤ n) : L (dec n) ≠ [] := by
  rw [L_dec h]
  intro e
  have := (PySem.toDigits_len_ge 10 n.toNat)
  rw [List.map_eq_nil_iff] at e
  rw [e] at this
  exact absurd this (by decide)
theorem foldl_val : ∀ (ds : List Nat) (v : Int) (k : Nat), Dg ds → v = k → ds.foldl dstep v = ((ds.foldl (fun acc c => acc * 10 + (c - 48)) k : Nat) : Int)
  | [], v, k, _, h => h
  | c :: ds, v, k, hd, h => by
    have hc := hd c (.head _)
    rw [List.foldl_cons, List.foldl_cons]
    refine foldl_val ds _ _ (fun c m => hd c (.tail _ m)) ?_
    unfold dstep
    rw [if_neg (by omega)]
    omega
theorem val_dec {n : Int} (h : 0 ≤ n) : (L (dec n)).foldl dstep (-1) = n := by
  have hd := dg_dec h
  have e := KE_val n.toNat
  have hne := ne_dec h
  cases hl : L (dec n) with
  | nil => exact absurd hl hne
  | cons c ds =>
    rw [hl] at hd
    rw [List.foldl_cons]
    have hc := hd c (.head _)
    rw [foldl_val ds (dstep (-1) c) (c - 48) (fun c m => hd c (.tail _ m)) (by unfold dstep; rw [if_pos (by omega)]; omega)]
    rw [← L_dec h, hl] at e
    unfold NumText.digitsVal at e
    rw [List.foldl_cons, Nat.zero_mul, Nat.zero_add] at e
    omega
  where KE_val (m : Nat) : NumText.digitsVal ((Nat.toDigits 10 m).map Char.toNat) = m := KIN.val_back m

/-! ### NS -/

theorem lt_letter {i : Int} (h0 : 0 ≤ i) (h1 : i < 26) : Lt (L (letter i)) := by
  intro c hc
  rw [L_letter, List.mem_singleton] at hc
  omega
theorem cn_facts (c : Int) (h0 : 0 ≤ c) (h1 : c < 702) : Lt (L (cn c)) ∧ L (cn c) ≠ [] ∧ (L (cn c)).foldl lstep (-1) = c := by
  unfold cn
  split
  · refine ⟨lt_letter h0 (by omega), by rw [L_letter]; exact List.cons_ne_nil _ _, ?_⟩
    rw [L_letter]
    simp only [List.foldl_cons, List.foldl_nil, lstep]
    omega
  · rw [L_app]
    refine ⟨fun x m => (List.mem_append.mp m).elim (lt_letter (by omega) (by omega) x) (lt_letter (by omega) (by omega) x), by rw [L_letter]; simp, ?_⟩
    rw [L_letter, L_letter]
    simp only [List.cons_append, List.nil_append, List.foldl_cons, List.foldl_nil, lstep]
    omega
theorem lets_facts (n : Nat) : Lt (L (lets n)) ∧ (L (lets n)).foldl lstep (-1) = n := by
  induction n using Nat.strongRecOn with
  | _ n ih =>
    by_cases h : n / 26 = 0
    · rw [lets_one h]
      refine ⟨lt_letter (by omega) (by omega), ?_⟩
      rw [L_letter]
      simp only [List.foldl_cons, List.foldl_nil, lstep]
      omega
    · rw [lets_more h, L_app]
      obtain ⟨h1, h2⟩ := ih (n / 26 - 1) (by omega)
      refine ⟨fun x m => (List.mem_append.mp m).elim (h1 x) (lt_letter (by omega) (by omega) x), ?_⟩
      rw [List.foldl_append, h2, L_letter]
      simp only [List.foldl_cons, List.foldl_nil, lstep]
      omega
theorem letters_of_lets (n : Nat) : letV (lets n) 0 = n ∧ letE (lets n) 0 = (lets n).length := by
  obtain ⟨h1, h2⟩ := lets_facts n
  obtain ⟨e1, e2⟩ := let_at (t := lets n) (p := 0) (ds := L (lets n)) (rest := []) (by simp) h1 (fun c r h => by cases h)
  exact ⟨e1.trans h2, by rw [e2, L_len]; simp⟩

def sg (b : Bool) : List Nat := if b then [36] else []
theorem head_ne {ds rest : List Nat} {k : Nat} (h : ds ≠ []) (hk : ∀ c ∈ ds, c ≠ k) : ((ds ++ rest).head? == some k) = false := by
  cases ds with
  | nil => exact absurd rfl h
  | cons c ds =>
    rw [List.cons_append, List.head?_cons]
    exact beq_eq_false_iff_ne.mpr fun e => hk c (.head _) (Option.some.inj e)
theorem plain_of {t : Str} {f n : Bool} {B Z : List Nat} (hL : L t = sg f ++ (B ++ (sg n ++ Z))) (hB : Lt B) (hB0 : B ≠ []) (hZ : Dg Z) (hZ0 : Z ≠ []) :
    plainF t = T4 (Z.foldl dstep (-1) - 1) (B.foldl lstep (-1)) (if n then 0 else 1) (if f then 0 else 1) := by
  have e0 : S1 t 0 "$" = f := by
    rw [S1_eq t 0 "$" 36 L_S, List.drop_zero, hL]
    cases f with
    | true => rfl
    | false => exact head_ne (ds := B) (rest := sg n ++ Z) hB0 fun c m e => by have := hB c m; omega
  have d1 : (L t).drop (if f then 1 else 0) = B ++ (sg n ++ Z) := by
    rw [hL]; cases f <;> rfl
  have nz : ∀ c r, sg n ++ Z = c :: r → ¬ (65 ≤ c ∧ c ≤ 90) := fun c r h => by
    cases n with
    | true => cases h; decide
    | false =>
      have : c ∈ Z := by rw [show Z = c :: r from h]; exact .head _
      have := hZ c this; omega
  obtain ⟨v1, a1⟩ := let_at d1 hB nz
  have d2 := drop_app d1
  unfold plainF
  rw [e0, v1, a1]
  have e1 : S1 t ((if f = true then 1 else 0) + B.length) "$" = n := by
    rw [S1_eq t _ "$" 36 L_S, d2]
    cases n with
    | true => rfl
    | false =>
      have := head_ne (rest := []) hZ0 (k := 36) fun c m e => by have := hZ c m; omega
      rw [List.append_nil] at this
      exact this
  rw [e1]
  have d3 : (L t).drop (if n then ((if f = true then 1 else 0) + B.length) + 1 else ((if f = true then 1 else 0) + B.length)) = Z ++ [] := by
    cases n with
    | true =>
      rw [if_pos rfl, ← List.drop_drop, d2]; simp [sg]
    | false =>
      rw [if_neg (by decide), d2]; simp [sg]
  obtain ⟨v2, a2⟩ := dig_at d3 hZ (fun c r h => by cases h)
  unfold plainE
  rw [v2, a2, if_neg]
  have hlen := congrArg List.length hL
  rw [L_len]
  simp only [List.length_append] at hlen
  cases f <;> cases n <;> simp [sg] at hlen ⊢ <;> omega

theorem dval_nonneg {Z : List Nat} (hZ : Dg Z) (h0 : Z ≠ []) : 0 ≤ Z.foldl dstep (-1) := by
  cases Z with
  | nil => exact absurd rfl h0
  | cons c Z =>
    have hc := hZ c (.head _)
    rw [List.foldl_cons, foldl_val Z (dstep (-1) c) (c - 48) (fun c m => hZ c (.tail _ m)) (by unfold dstep; rw [if_pos (by omega)]; omega)]
    omega
/-- what stands behind the letter of a part -/
def pbody (v : Int) (q : Bool) : List Nat := if q then (if v = 0 then [] else [91] ++ (L (dec v) ++ [93])) else L (dec (v + 1))
theorem part_of {t : Str} {p : Nat} {l : String} {k : Nat} {v : Int} {q : Bool} {rest : List Nat} (hk : L (Str.ofString l) = [k]) (hL : (L t).drop p = [k] ++ (pbody v q ++ rest)) (hv : q = false → 0 ≤ v)
    (hr : ∀ c r, rest = c :: r → ¬ (48 ≤ c ∧ c ≤ 57) ∧ c ≠ 91) : partF t p l = ⟨v, if q then 1 else 0, p + 1 + (pbody v q).length⟩ := by
  have s0 : S1 t p l = true := by rw [S1_eq t p l k hk, hL]; simp
  have d1 : (L t).drop (p + 1) = pbody v q ++ rest := drop_app hL
  unfold partF
  rw [if_neg (by rw [s0]; decide)]
  cases q with
  | false =>
    have h0 := hv rfl
    have e : pbody v false = L (dec (v + 1)) := rfl
    rw [e] at d1 ⊢
    obtain ⟨v1, a1⟩ := dig_at d1 (dg_dec (by omega)) (fun c r h => (hr c r h).1)
    rw [v1, a1, val_dec (by omega), if_pos (by omega)]
    congr 1; omega
  | true =>
    by_cases hz : v = 0
    · subst hz
      have e : pbody 0 true = [] := rfl
      rw [e] at d1 ⊢
      have d1' : (L t).drop (p + 1) = [] ++ rest := d1
      obtain ⟨v1, a1⟩ := dig_at d1' (fun c m => by cases m) (fun c r h => (hr c r h).1)
      rw [v1, if_neg (by decide)]
      have s1 : S1 t (p + 1) "[" = false := by
        rw [S1_eq t _ "[" 91 (by decide +kernel), d1, List.nil_append]
        cases rest with
        | nil => rfl
        | cons c r => exact beq_eq_false_iff_ne.mpr fun e => (hr c r rfl).2 (Option.some.inj e)
      rw [if_pos s1]
      rfl
    · have e : pbody v true = [91] ++ (L (dec v) ++ [93]) := by unfold pbody; rw [if_pos rfl, if_neg hz]
      rw [e] at d1 ⊢
      have d1' : (L t).drop (p + 1) = [] ++ ([91] ++ (L (dec v) ++ [93]) ++ rest) := d1
      obtain ⟨v1, a1⟩ := dig_at d1' (fun c m => by cases m) (fun c r h => by cases h; decide)
      rw [v1, if_neg (by decide)]
      have s1 : S1 t (p + 1) "[" = true := by rw [S1_eq t _ "[" 91 (by decide +kernel), d1]; rfl
      rw [if_neg (by rw [s1]; decide)]
      have d2 : (L t).drop (p + 2) = L (dec v) ++ ([93] ++ rest) := by
        have := drop_app (a := [91]) (b := L (dec v) ++ ([93] ++ rest)) (by rw [d1]; simp)
        exact this
      -- the sign
      have key : ∃ (m : Bool) (Z : List Nat), L (dec v) = (if m then [45] else []) ++ Z ∧ Dg Z ∧ Z ≠ [] ∧ (if m then -(Z.foldl dstep (-1)) else Z.foldl dstep (-1)) = v := by
        by_cases hn : v < 0
        · refine ⟨true, L (dec (-v)), ?_, dg_dec (by omega), ne_dec (by omega), ?_⟩
          · rw [dec_neg hn, L_app, L_m]; rfl
          · rw [if_pos rfl, val_dec (by omega)]; omega
        · exact ⟨false, L (dec v), rfl, dg_dec (by omega), ne_dec (by omega), by rw [if_neg (by decide), val_dec (by omega)]⟩
      obtain ⟨m, Z, k1, k2, k3, k4⟩ := key
      rw [k1] at d2 ⊢
      have s2 : S1 t (p + 2) "-" = m := by
        rw [S1_eq t _ "-" 45 L_m, d2]
        cases m with
        | true => rfl
        | false => exact head_ne k3 fun c m e => by have := k2 c m; omega
      rw [s2]
      have d3 : (L t).drop (if m then p + 3 else p + 2) = Z ++ ([93] ++ rest) := by
        cases m with
        | true => exact drop_app (a := [45]) (by rw [d2]; simp)
        | false => rw [if_neg (by decide), d2]; simp
      obtain ⟨v2, a2⟩ := dig_at d3 k2 (fun c r h => by cases h; decide)
      have d4 := drop_app d3
      have s3 : S1 t (digE t (if m = true then p + 3 else p + 2)) "]" = true := by
        rw [a2, S1_eq t _ "]" 93 (by decide +kernel), d4]; rfl
      have nn := dval_nonneg k2 k3
      rw [v2, s3, if_neg (by simp; omega), k4, a2]
      congr 1
      cases m <;> simp <;> omega

/-! ### NT -/

theorem L_rowT (r rr b : Int) : L (rowrel r rr b true) = [82] ++ pbody r (decide (rr ≠ 0)) := by
  unfold rowrel pbody
  by_cases h : rr = 0
  · rw [if_pos h, if_pos rfl, L_app, L_R, decide_eq_false (by simpa using h)]; rfl
  · rw [if_neg h, if_pos rfl, decide_eq_true h, if_pos rfl]
    by_cases h0 : r = 0
    · rw [if_pos h0, if_pos h0, L_R]; rfl
    · rw [if_neg h0, if_neg h0, L_app, L_app, L_Rb, L_b]; rfl
theorem L_colT (c cr d : Int) : L (colrel c cr d true) = [67] ++ pbody c (decide (cr ≠ 0)) := by
  unfold colrel pbody
  by_cases h : cr = 0
  · rw [if_pos h, if_pos rfl, L_app, L_C, decide_eq_false (by simpa using h)]; rfl
  · rw [if_neg h, if_pos rfl, decide_eq_true h, if_pos rfl]
    by_cases h0 : c = 0
    · rw [if_pos h0, if_pos h0, L_C]; rfl
    · rw [if_neg h0, if_neg h0, L_app, L_app, L_Cb, L_b]; rfl
theorem L_absT (r c : Int) : L (nmabs r c true) = ([82] ++ pbody r false) ++ ([67] ++ pbody c false) := by
  unfold nmabs pbody
  rw [if_pos rfl, L_app, L_app, L_app, L_R, L_C]
  simp
theorem L_relT (r c l f b d : Int) : L (nmrel r c l f b d true) = ([82] ++ pbody r (decide (l ≠ 0))) ++ ([67] ++ pbody c (decide (f ≠ 0))) := by
  unfold nmrel
  by_cases h : l = 0 ∧ f = 0
  · rw [if_pos h, L_absT, decide_eq_false (by simpa using h.1), decide_eq_false (by simpa using h.2)]
  · rw [if_neg h, if_pos rfl, L_app, L_rowT, L_colT]
theorem round_of {t : Str} {r c b0 b1 re : Int} {q q' : Bool} (hL : L t = ([82] ++ pbody r q) ++ ([67] ++ pbody c q')) (hr : q = false → 0 ≤ r) (hc : q' = false → 0 ≤ c) :
    roundF t b0 b1 re = T4 (if q then (b0 + r) % re else r) (if q' then (b1 + c) % 256 else c) (if q then 1 else 0) (if q' then 1 else 0) := by
  have p1 := part_of (t := t) (p := 0) (l := "R") (k := 82) (v := r) (q := q) (rest := [67] ++ pbody c q') L_R (by rw [List.drop_zero, hL]; simp) hr (fun x y h => by cases h; decide)
  have d2 : (L t).drop (0 + 1 + (pbody r q).length) = [67] ++ (pbody c q' ++ []) := by
    have := drop_app (l := L t) (p := 0) (a := [82] ++ pbody r q) (b := [67] ++ pbody c q') (by rw [List.drop_zero, hL])
    rw [List.append_nil, ← this]
    congr 1; simp; omega
  have p2 := part_of (t := t) (p := 0 + 1 + (pbody r q).length) (l := "C") (k := 67) (v := c) (q := q') (rest := []) L_C d2 hc (fun x y h => by cases h)
  unfold roundF
  rw [p1, p2]
  unfold roundE
  have hlen := congrArg List.length hL
  simp only [List.length_append] at hlen
  rw [if_neg (by rw [L_len, hlen]; simp; omega)]
  cases q <;> cases q' <;> rfl
theorem L_absF (r c : Int) : L (nmabs r c false) = sg true ++ (L (cn c) ++ (sg true ++ L (dec (r + 1)))) := by
  unfold nmabs
  rw [if_neg (by decide), L_app, L_app, L_app, L_S]
  simp [sg]
theorem L_relF (r c l f b d : Int) : L (nmrel r c l f b d false) = sg (decide (f = 0)) ++ (L (cn (if f = 0 then c else (d + c) % 256)) ++ (sg (decide (l = 0)) ++ L (dec ((if l = 0 then r else (b + r) % 65536) + 1)))) := by
  unfold nmrel
  by_cases h : l = 0 ∧ f = 0
  · rw [if_pos h, L_absF, if_pos h.1, if_pos h.2, decide_eq_true h.1, decide_eq_true h.2]
  · rw [if_neg h, if_neg (by decide), L_app]
    unfold colrel rowrel
    by_cases h1 : l = 0 <;> by_cases h2 : f = 0 <;> simp only [if_pos, if_neg, h1, h2, decide_true, decide_false, Bool.false_eq_true, not_false_eq_true, if_true, if_false, L_app, L_S, sg] <;> simp
theorem plain_absF {r c : Int} (h0 : 0 ≤ r) (h1 : 0 ≤ c) (h2 : c < 702) : plainF (nmabs r c false) = T4 r c 0 0 := by
  obtain ⟨a1, a2, a3⟩ := cn_facts c h1 h2
  rw [plain_of (L_absF r c) a1 a2 (dg_dec (by omega)) (ne_dec (by omega)), val_dec (by omega), a3]
  rw [show r + 1 - 1 = r from by omega]; rfl
theorem plain_cell {r c : Int} (h0 : 0 ≤ r) (h1 : 0 ≤ c) (h2 : c < 702) : plainF (cn c ++ dec (r + 1)) = T4 r c 1 1 := by
  obtain ⟨a1, a2, a3⟩ := cn_facts c h1 h2
  rw [plain_of (f := false) (n := false) (B := L (cn c)) (Z := L (dec (r + 1))) (by rw [L_app]; rfl) a1 a2 (dg_dec (by omega)) (ne_dec (by omega)), val_dec (by omega), a3]
  rw [show r + 1 - 1 = r from by omega]; rfl
theorem plain_relF {r c l f b d R C : Int} (hl : l = 0 ∨ l = 1) (hf : f = 0 ∨ f = 1) (hR : (if l = 0 then r else (b + r) % 65536) = R) (hC : (if f = 0 then c else (d + c) % 256) = C) (h0 : 0 ≤ R) (h1 : 0 ≤ C) (h2 : C < 702) : plainF (nmrel r c l f b d false) = T4 R C l f := by
  obtain ⟨a1, a2, a3⟩ := cn_facts C h1 h2
  have e := L_relF r c l f b d
  rw [hR, hC] at e
  rw [plain_of e a1 a2 (dg_dec (by omega)) (ne_dec (by omega)), val_dec (by omega), a3]
  rw [show R + 1 - 1 = R from by omega]
  rcases hl with rfl | rfl <;> rcases hf with rfl | rfl <;> rfl

theorem Good.mk' {b0 b1 re : Int} {wh : Bool} {r c l f R C : Int} (fl : l = 0 ∨ l = 1) (ff : f = 0 ∨ f = 1) (r0 : l = 0 → r = R) (c0 : f = 0 → c = C) (rr : l = 1 → (b0 + r) % re = R) (cc : f = 1 → (b1 + c) % 256 = C)
    (R0 : 0 ≤ R) (R1 : R < 70000) (C0 : 0 ≤ C) (C1 : C < 700) (r1 : -100000 < r) (r2 : r < 100000) (c1 : -1000 < c) (c2 : c < 1000) (ww : wh = true → l = 1 → (b0 + r) % 65536 = R) : Good b0 b1 re wh r c l f R C where
  fl := fl
  ff := ff
  r0 := r0
  c0 := c0
  R0 := R0
  R1 := R1
  C0 := C0
  C1 := C1
  r1 := r1
  r2 := r2
  c1 := c1
  c2 := c2
  w := fun hw => plain_relF fl ff (by
    rcases fl with rfl | rfl
    · rw [if_pos rfl]; exact r0 rfl
    · rw [if_neg (by decide)]; exact ww hw rfl) (by
    rcases ff with rfl | rfl
    · rw [if_pos rfl]; exact c0 rfl
    · rw [if_neg (by decide)]; exact cc rfl) R0 C0 (by omega)
  rd := by
    rw [round_of (L_relT r c l f b0 b1) (fun h => by have : l = 0 := by simpa using h
                                                     rw [r0 this]; exact R0) (fun h => by have : f = 0 := by simpa using h
                                                                                          rw [c0 this]; exact C0)]
    rcases fl with rfl | rfl <;> rcases ff with rfl | rfl <;> simp_all
  p := fun h1 h2 => by
    subst h1 h2
    rw [r0 rfl, c0 rfl]
    exact plain_absF R0 C0 (by omega)

/-! ### NU -/

def dueV (t : Bool) (re b v l : Int) : Int := if l = 1 then (if t = true then near (v - b) re else v - b) else v
def stoV (t : Bool) (re b v l : Int) : Int := if l = 1 ∧ t = true then (v - b) % re else v
def mk (l f : Int) : Int := 32768 * l + 16384 * f
theorem sto_lt {t : Bool} {re b v l : Int} (h0 : 0 ≤ v) (h1 : v < re) : 0 ≤ stoV t re b v l ∧ stoV t re b v l < re := by
  unfold stoV
  split
  · exact ⟨Int.emod_nonneg _ (by omega), Int.emod_lt_of_pos _ (by omega)⟩
  · exact ⟨h0, h1⟩
theorem adj80T {b0 b1 row col l f : Int} (hl : l = 0 ∨ l = 1) (hf : f = 0 ∨ f = 1) (r0 : 0 ≤ row) (r1 : row < 65536) (c0 : 0 ≤ col) (c1 : col < 256) :
    adjT (stoV true 65536 b0 row l) ((stoV true 256 b1 col f + mk l f) % 256) ((stoV true 256 b1 col f + mk l f) / 32768 % 2) ((stoV true 256 b1 col f + mk l f) / 16384 % 2) 65536 = .py (T4 (dueV true 65536 b0 row l) (dueV true 256 b1 col f) l f) := by
  have h1 := sto_lt (t := true) (re := 256) (b := b1) (l := f) c0 c1
  have e1 : (stoV true 256 b1 col f + mk l f) % 256 = stoV true 256 b1 col f := by unfold mk; omega
  have e2 : (stoV true 256 b1 col f + mk l f) / 32768 % 2 = l := by unfold mk; omega
  have e3 : (stoV true 256 b1 col f + mk l f) / 16384 % 2 = f := by unfold mk; omega
  rw [e1, e2, e3]
  unfold adjT
  refine congrArg D.tup ?_
  simp only [List.cons.injEq, PyData.int.injEq, and_true]
  unfold stoV dueV near
  refine ⟨?_, ?_⟩
  · rcases hl with rfl | rfl <;> simp only [and_true, if_true, Int.reduceEq, ne_eq, not_true_eq_false, not_false_eq_true, true_and, false_and, if_false] <;> (repeat' split) <;> omega
  · rcases hf with rfl | rfl <;> simp only [and_true, if_true, Int.reduceEq, ne_eq, not_true_eq_false, not_false_eq_true, true_and, false_and, if_false] <;> (repeat' split) <;> omega
theorem adj80F {b0 b1 row col l f : Int} (hl : l = 0 ∨ l = 1) (hf : f = 0 ∨ f = 1) (r0 : 0 ≤ row) (r1 : row < 65536) (c0 : 0 ≤ col) (c1 : col < 256) :
    adjF (stoV false 65536 b0 row l) ((stoV false 256 b1 col f + mk l f) % 256) ((stoV false 256 b1 col f + mk l f) / 32768 % 2) ((stoV false 256 b1 col f + mk l f) / 16384 % 2) b0 b1 = .py (T4 (dueV false 65536 b0 row l) (dueV false 256 b1 col f) l f) := by
  have h1 := sto_lt (t := false) (re := 256) (b := b1) (l := f) c0 c1
  have e1 : (stoV false 256 b1 col f + mk l f) % 256 = stoV false 256 b1 col f := by unfold mk; omega
  have e2 : (stoV false 256 b1 col f + mk l f) / 32768 % 2 = l := by unfold mk; omega
  have e3 : (stoV false 256 b1 col f + mk l f) / 16384 % 2 = f := by unfold mk; omega
  rw [e1, e2, e3]
  unfold adjF
  refine congrArg D.tup ?_
  simp only [List.cons.injEq, PyData.int.injEq, and_true]
  unfold stoV dueV
  refine ⟨?_, ?_⟩
  · rcases hl with rfl | rfl <;> simp
  · rcases hf with rfl | rfl <;> simp
theorem adj70T {b0 b1 row col l f : Int} (hl : l = 0 ∨ l = 1) (hf : f = 0 ∨ f = 1) (r0 : 0 ≤ row) (r1 : row < 16384) (c0 : 0 ≤ col) (c1 : col < 256) :
    adjT ((stoV true 16384 b0 row l + mk l f) % 16384) (stoV true 256 b1 col f) ((stoV true 16384 b0 row l + mk l f) / 32768 % 2) ((stoV true 16384 b0 row l + mk l f) / 16384 % 2) 16384 = .py (T4 (dueV true 16384 b0 row l) (dueV true 256 b1 col f) l f) := by
  have h1 := sto_lt (t := true) (re := 16384) (b := b0) (l := l) r0 r1
  have e1 : (stoV true 16384 b0 row l + mk l f) % 16384 = stoV true 16384 b0 row l := by unfold mk; omega
  have e2 : (stoV true 16384 b0 row l + mk l f) / 32768 % 2 = l := by unfold mk; omega
  have e3 : (stoV true 16384 b0 row l + mk l f) / 16384 % 2 = f := by unfold mk; omega
  rw [e1, e2, e3]
  unfold adjT
  refine congrArg D.tup ?_
  simp only [List.cons.injEq, PyData.int.injEq, and_true]
  unfold stoV dueV near
  refine ⟨?_, ?_⟩
  · rcases hl with rfl | rfl <;> simp only [and_true, if_true, Int.reduceEq, ne_eq, not_true_eq_false, not_false_eq_true, true_and, false_and, if_false] <;> (repeat' split) <;> omega
  · rcases hf with rfl | rfl <;> simp only [and_true, if_true, Int.reduceEq, ne_eq, not_true_eq_false, not_false_eq_true, true_and, false_and, if_false] <;> (repeat' split) <;> omega
theorem adj70F {b0 b1 row col l f : Int} (hl : l = 0 ∨ l = 1) (hf : f = 0 ∨ f = 1) (r0 : 0 ≤ row) (r1 : row < 16384) (c0 : 0 ≤ col) (c1 : col < 256) :
    adjF ((stoV false 16384 b0 row l + mk l f) % 16384) (stoV false 256 b1 col f) ((stoV false 16384 b0 row l + mk l f) / 32768 % 2) ((stoV false 16384 b0 row l + mk l f) / 16384 % 2) b0 b1 = .py (T4 (dueV false 16384 b0 row l) (dueV false 256 b1 col f) l f) := by
  have h1 := sto_lt (t := false) (re := 16384) (b := b0) (l := l) r0 r1
  have e1 : (stoV false 16384 b0 row l + mk l f) % 16384 = stoV false 16384 b0 row l := by unfold mk; omega
  have e2 : (stoV false 16384 b0 row l + mk l f) / 32768 % 2 = l := by unfold mk; omega
  have e3 : (stoV false 16384 b0 row l + mk l f) / 16384 % 2 = f := by unfold mk; omega
  rw [e1, e2, e3]
  unfold adjF
  refine congrArg D.tup ?_
  simp only [List.cons.injEq, PyData.int.injEq, and_true]
  unfold stoV dueV
  refine ⟨?_, ?_⟩
  · rcases hl with rfl | rfl <;> simp
  · rcases hf with rfl | rfl <;> simp

theorem good_of {t : Bool} {re b0 b1 row col l f : Int} {wh : Bool} (hre : re = 16384 ∨ re = 65536) (hl : l = 0 ∨ l = 1) (hf : f = 0 ∨ f = 1) (r0 : 0 ≤ row) (r1 : row < re) (c0 : 0 ≤ col) (c1 : col < 256)
    (hb0 : 0 ≤ b0) (hb1 : b0 < re) (hc0 : 0 ≤ b1) (hc1 : b1 < 256) (hwh : re = 16384 → wh = true → l = 1 → 0 ≤ b0 + dueV t re b0 row l ∧ b0 + dueV t re b0 row l < re) :
    Good b0 b1 re wh (dueV t re b0 row l) (dueV t 256 b1 col f) l f row col := by
  have key : ∀ (re : Int), re = 16384 ∨ re = 65536 ∨ re = 256 → ∀ v b : Int, 0 ≤ v → v < re → 0 ≤ b → b < re → (b + near (v - b) re) % re = v ∧ -65536 ≤ near (v - b) re ∧ near (v - b) re ≤ 65536 ∧ (re = 256 → -128 ≤ near (v - b) re ∧ near (v - b) re < 128) := by
    intro re h v b x1 x2 x3 x4
    unfold near
    rcases h with rfl | rfl | rfl <;> omega
  have kr := key re (by omega) row b0 r0 r1 hb0 hb1
  have kc := key 256 (by omega) col b1 c0 c1 hc0 hc1
  unfold dueV at hwh ⊢
  refine Good.mk' hl hf (fun h => ?_) (fun h => ?_) (fun h => ?_) (fun h => ?_) r0 (by omega) c0 (by omega) ?_ ?_ ?_ ?_ (fun hw h => ?_)
  · rw [if_neg (by omega)]
  · rw [if_neg (by omega)]
  · rw [if_pos h]
    cases t with
    | true => exact kr.1
    | false => rw [if_neg (by decide)]; rcases hre with rfl | rfl <;> omega
  · rw [if_pos h]
    cases t with
    | true => exact kc.1
    | false => rw [if_neg (by decide)]; omega
  · cases t <;> (simp only [if_true, Bool.false_eq_true, if_false]; split <;> omega)
  · cases t <;> (simp only [if_true, Bool.false_eq_true, if_false]; split <;> omega)
  · cases t <;> (simp only [if_true, Bool.false_eq_true, if_false]; split <;> omega)
  · cases t <;> (simp only [if_true, Bool.false_eq_true, if_false]; split <;> omega)
  · rcases hre with rfl | rfl
    · have := hwh rfl hw h
      rw [if_pos h] at this ⊢
      cases t with
      | true =>
        rw [if_pos rfl] at this ⊢
        have := kr.1
        omega
      | false => rw [if_neg (by decide)] at this ⊢; omega
    · rw [if_pos h]
      cases t with
      | true => exact kr.1
      | false => rw [if_neg (by decide)]; omega

theorem cutB_at (n : Nat) (x : Int) (mid post : List Int) (j : Int) (hj : j = n + mid.length) : cutB (byteArr (List.replicate n x ++ (mid ++ post))) (n : Int) j = byteArr mid := by
  subst hj
  unfold cutB byteArr
  simp only [List.map_append, List.map_replicate, Int.toNat_natCast]
  rw [show ((n : Int) + (mid.length : Int) - n).toNat = mid.length by omega]
  congr 1
  rw [List.drop_left' (by simp), List.take_left' (by simp)]

/-! ### NV -/

def bodyOf : Option Obj → List Stmt
  | some o => (match o.data with | .func fd => (match fd.body with | .stmts b => b | _ => []) | _ => [])
  | none => []
def scopeOf : Option Obj → Scope
  | some o => (match o.data with | .func fd => fd.scope | _ => { kind := .function, names := [], isGenerator := false, isCoroutine := false })
  | none => { kind := .function, names := [], isGenerator := false, isCoroutine := false }
theorem law_lit {fo : Obj} {name qual : Str} {params : Arguments} {body : List Stmt} {scope : Scope} {dV kV doc pm cdv ct : Value} {an : Option Addr} (Q : Scope → List Stmt → Prop) (hK : ∀ P, (hd.heap_39 P).lookup 233 = some fo) (hfo : fo.data = .func (fnX name qual params body scope [] dV kV doc pm an cdv ct)) (h : Q scope body) :
    ∃ sc b, (∀ P, scopeOf ((hd.heap_39 P).lookup 233) = sc ∧ bodyOf ((hd.heap_39 P).lookup 233) = b) ∧ Q sc b :=
  ⟨scope, body, fun P => by rw [hK P]; unfold scopeOf bodyOf; simp only []; rw [hfo]; exact ⟨rfl, rfl⟩, h⟩

structure LawIn (X : Int) (g : Int) : Prop where
  x0 : 0 ≤ X
  x1 : X < 1099511627776
  g0 : 0 ≤ g
  g1 : g < 1152921504606846976

theorem lookup_one {k y : Str} {a c : Addr} (h : [(k, a)].lookup y = some c) : y = k ∧ c = a := by
  rw [List.lookup_cons] at h
  by_cases q : y = k
  · subst q; rw [beq_self_eq_true] at h; cases h; exact ⟨rfl, rfl⟩
  · rw [show (y == k) = false from beq_eq_false_iff_ne.mpr q] at h; cases h
theorem lookup_two {k k' y : Str} {a a' c : Addr} (h : [(k, a), (k', a')].lookup y = some c) : (y = k ∧ c = a) ∨ (y = k' ∧ c = a') := by
  rw [List.lookup_cons] at h
  by_cases q : y = k
  · subst q; rw [beq_self_eq_true] at h; cases h; exact .inl ⟨rfl, rfl⟩
  · rw [show (y == k) = false from beq_eq_false_iff_ne.mpr q] at h; exact .inr (lookup_one h)
def flagOf (g : Int) : PyData → Int
  | .int 3 => g / 8 % 2
  | .int 4 => g / 16 % 2
  | .int 5 => g / 32 % 2
  | .int 6 => g / 64 % 2
  | _ => 0

theorem adj80c {t : Bool} {b0 b1 row col l f : Int} (hl : l = 0 ∨ l = 1) (hf : f = 0 ∨ f = 1) (r0 : 0 ≤ row) (r1 : row < 65536) (c0 : 0 ≤ col) (c1 : col < 256) :
    CallJ 1 (.ref 50) [.int (stoV t 65536 b0 row l % 256 + 256 * (stoV t 65536 b0 row l / 256)), .int ((stoV t 256 b1 col f + mk l f) % 256 + 256 * ((stoV t 256 b1 col f + mk l f) / 256)), .bool t, .int b0, .int b1] (.py (T4 (dueV t 65536 b0 row l) (dueV t 256 b1 col f) l f)) := by
  rw [show stoV t 65536 b0 row l % 256 + 256 * (stoV t 65536 b0 row l / 256) = stoV t 65536 b0 row l from by omega, show (stoV t 256 b1 col f + mk l f) % 256 + 256 * ((stoV t 256 b1 col f + mk l f) / 256) = stoV t 256 b1 col f + mk l f from by omega]
  cases t with
  | true => exact (adj8T _ _ b0 b1).eq (adj80T hl hf r0 r1 c0 c1)
  | false => exact (adj8F _ _ b0 b1).eq (adj80F hl hf r0 r1 c0 c1)
theorem adj70c {t : Bool} {b0 b1 row col l f : Int} (hl : l = 0 ∨ l = 1) (hf : f = 0 ∨ f = 1) (r0 : 0 ≤ row) (r1 : row < 16384) (c0 : 0 ≤ col) (c1 : col < 256) :
    CallJ 1 (.ref 58) [.int ((stoV t 16384 b0 row l + mk l f) % 256 + 256 * ((stoV t 16384 b0 row l + mk l f) / 256)), .int (stoV t 256 b1 col f), .bool t, .int b0, .int b1] (.py (T4 (dueV t 16384 b0 row l) (dueV t 256 b1 col f) l f)) := by
  rw [show (stoV t 16384 b0 row l + mk l f) % 256 + 256 * ((stoV t 16384 b0 row l + mk l f) / 256) = stoV t 16384 b0 row l + mk l f from by omega]
  cases t with
  | true => exact (adj7T _ _ b0 b1).eq (adj70T hl hf r0 r1 c0 c1)
  | false => exact (adj7F _ _ b0 b1).eq (adj70F hl hf r0 r1 c0 c1)
def wdV (V : Int) (t : Bool) (RE b0 b1 row col l f : Int) : PyData :=
  if V = 80 then .tuple [.list [.int (stoV t RE b0 row l % 256), .int (stoV t RE b0 row l / 256)], .list [.int ((stoV t 256 b1 col f + mk l f) % 256), .int ((stoV t 256 b1 col f + mk l f) / 256)]]
  else .tuple [.list [.int ((stoV t RE b0 row l + mk l f) % 256), .int ((stoV t RE b0 row l + mk l f) / 256)], .list [.int (stoV t 256 b1 col f)]]
theorem plain4 {a b c d : Int} : ∀ e ∈ [PyData.int a, .int b, .int c, .int d], Plain e := plains_cons (.int _) (plains_cons (.int _) (plains_cons (.int _) (plains_cons (.int _) plains_nil)))

theorem BinJ.addI {xs ys : List Int} (h : xs.length + ys.length ≤ 1000) : BinJ .Add (.lst (xs.map PyData.int)) (.lst (ys.map PyData.int)) (.lst ((xs ++ ys).map PyData.int)) := by
  rw [List.map_append]
  refine BinJ.addl (fun d hd => ?_) (fun d hd => ?_) (by simp; omega)
  · obtain ⟨i, _, rfl⟩ := List.mem_map.mp hd; exact .int _
  · obtain ⟨i, _, rfl⟩ := List.mem_map.mp hd; exact .int _
def pzW : PyData → Bool
  | .tuple [_, _, .int l, _] => decide (l = 1)
  | _ => false
def fzW (b0 RE : Int) : PyData → PyData
  | .tuple (.int r :: _) => .bool (decide (0 ≤ b0 + r) && decide (b0 + r < RE))
  | _ => .bool false
theorem whole_of {b0 RE r1 c1 l1 f1 r2 c2 l2 f2 : Int} (h : Spec.countIn (.bool false) (([T4 r1 c1 l1 f1, T4 r2 c2 l2 f2].filter pzW).map (fzW b0 RE)) = 0) :
    (l1 = 1 → 0 ≤ b0 + r1 ∧ b0 + r1 < RE) ∧ (l2 = 1 → 0 ≤ b0 + r2 ∧ b0 + r2 < RE) := by
  have sm : ∀ b : Bool, Spec.same (.bool b) (.bool false) = !b := by intro b; cases b <;> rfl
  have p1 : pzW (T4 r1 c1 l1 f1) = decide (l1 = 1) := rfl
  have p2 : pzW (T4 r2 c2 l2 f2) = decide (l2 = 1) := rfl
  obtain ⟨x1, e1, hx1⟩ : ∃ x, fzW b0 RE (T4 r1 c1 l1 f1) = .bool x ∧ (x = true → 0 ≤ b0 + r1 ∧ b0 + r1 < RE) := ⟨_, rfl, fun h => by simpa using h⟩
  obtain ⟨x2, e2, hx2⟩ : ∃ x, fzW b0 RE (T4 r2 c2 l2 f2) = .bool x ∧ (x = true → 0 ≤ b0 + r2 ∧ b0 + r2 < RE) := ⟨_, rfl, fun h => by simpa using h⟩
  rw [List.filter_cons, List.filter_cons, List.filter_nil, p1, p2] at h
  by_cases h1 : l1 = 1 <;> by_cases h2 : l2 = 1 <;> simp only [h1, h2, decide_true, decide_false, if_true, if_false, Bool.false_eq_true, List.map_cons, List.map_nil, e1, e2, Spec.countIn, sm] at h <;>
    cases x1 <;> cases x2 <;> simp_all

section
set_option maxHeartbeats 4000000
theorem law_ex : ∃ sc b, (∀ P, scopeOf ((hd.heap_39 P).lookup 233) = sc ∧ bodyOf ((hd.heap_39 P).lookup 233) = b) ∧
    ∀ (name : Str) (a : Addr) (cdv : Value) (w : World) (mg mb : Str → Option Value) (A : Around) (h₀ : Heap) (L : Addr) (ns : List Int), h₀.objs.size ≤ L → ns.length ≤ 1000 →
      Ex { w, mg, mb, A, h₀, env := envOfC name sc L a cdv, n := 5, F := [] } [("script", .lst (ns.map PyData.int))] [] b (fun _ _ => False) (fun d => d = .bool true) := by
  refine law_lit _ (fun P => rfl) rfl ?_
  intro name a cdv w mg mb A h₀ L ns hL hns
  have hc : ∀ k : Nat, h₀.get? (L + k) = none := fun k => Heap.get?_none_of_le (Nat.le_trans hL (Nat.le_add_right _ _))
  -- first
  have first : ∃ X : Int, 0 ≤ X ∧ X < 1099511627776 ∧ X = (match ns with | [] => 0 | x :: _ => x % 1099511627776) := by
    cases ns with
    | nil => exact ⟨0, by omega, by omega, rfl⟩
    | cons x r => exact ⟨x % 1099511627776, by omega, by omega, rfl⟩
  obtain ⟨X, x0, x1, hX⟩ := first
  refine Ex.cons ?_
  refine' Ex1.assign (d := .int X) ?a1 (.inl rfl) ?a2
  case a1 =>
    cases ns with
    | nil =>
      subst hX
      exact Ev.iteF (EvT.eq (EvT.of_value (Ev.name (by rfl)) (TruJ.ints (l := []) (by decide))) rfl) Ev.int
    | cons x r =>
      subst hX
      refine Ev.iteT (EvT.eq (EvT.of_value (Ev.name (by rfl)) (TruJ.ints (l := (x :: r).map PyData.int) (by simp at hns ⊢; omega))) rfl) ?_
      refine Ev.bin (Ev.sub (Ev.name (d := .lst ((x :: r).map PyData.int)) (by rfl)) Ev.int (SubJ.lst (d := .int x) (by decide) (by rfl))) (Ev.eq (Ev.bin Ev.int Ev.int (BinJ.pow (by decide) (by decide +kernel))) (congrArg D.int (show (2 : Int) ^ (40 : Int).toNat = 1099511627776 from by decide +kernel))) (BinJ.emod (by decide))
  clear hX
  -- for given
  have gsf : ∃ ks : List Int, ks = (ns.drop (1 : Int).toNat).take (min (3 : Int).toNat ns.length - (1 : Int).toNat) ∧ ks.length ≤ 1000 := ⟨_, rfl, by simp; omega⟩
  obtain ⟨ks, hks, hkl⟩ := gsf
  have hgs : ∀ d ∈ ((ks.map PyData.int).filter fun _ => true).map (fun d => match d with | .int i => .int (i % 1152921504606846976) | d => d) ++ [PyData.int 8960120, .int 10016783], ∃ g : Int, d = .int g ∧ 0 ≤ g ∧ g < 1152921504606846976 := by
    intro d hd
    rcases List.mem_append.mp hd with h | h
    · obtain ⟨e, he, rfl⟩ := List.mem_map.mp h
      obtain ⟨i, _, rfl⟩ := List.mem_map.mp (List.mem_filter.mp he).1
      exact ⟨_, rfl, by omega, by omega⟩
    · simp at h
      rcases h with rfl | rfl
      · exact ⟨_, rfl, by omega, by omega⟩
      · exact ⟨_, rfl, by omega, by omega⟩
  refine Ex.cons ?_
  refine' Ex1.for (ds := ((ks.map PyData.int).filter fun _ => true).map (fun d => match d with | .int i => .int (i % 1152921504606846976) | d => d) ++ [PyData.int 8960120, .int 10016783]) ?b1 ?b2 GoOk.name
  case b1 =>
    refine' Ev.bin (Ev.ofL (EvL.comp (ds := ks.map PyData.int) (ρc := []) (fun _ => true) (fun d => match d with | .int i => .int (i % 1152921504606846976) | d => d) (SrcJ.list ?c1) (by simpa using hkl) rfl rfl (by decide) (by decide) rfl (fun y c h => by cases h) (fun p hp => nomatch hp) (fun d hd C h => EvTests.nil) ?c2 ?c3)) ?c4 (BinJ.addl ?c5 ?c6 ?c7)
    case c1 =>
      rw [hks]
      exact Ev.sliceI (Ev.name (by rfl)) Ev.int Ev.int (by decide) (by decide) hns
    case c2 =>
      intro d hd _ C h
      obtain ⟨i, _, rfl⟩ := List.mem_map.mp hd
      exact Ev.bin (Ev.name (by rfl)) (Ev.eq (Ev.bin Ev.int Ev.int (BinJ.pow (by decide) (by decide +kernel))) (congrArg D.int (show (2 : Int) ^ (60 : Int).toNat = 1152921504606846976 from by decide +kernel))) (BinJ.emod (by decide))
    case c3 =>
      intro d hd _
      obtain ⟨i, _, rfl⟩ := List.mem_map.mp hd
      exact .inl ⟨_, rfl⟩
    case c4 => exact Ev.list (.cons Ev.int (.cons Ev.int .nil))
    case c5 =>
      intro d hd
      obtain ⟨e, he, rfl⟩ := List.mem_map.mp hd
      obtain ⟨i, _, rfl⟩ := List.mem_map.mp (List.mem_filter.mp he).1
      exact .int _
    case c6 => walk_at "mv_plain"
    case c7 =>
      have := List.length_filter_le (fun _ => true) (ks.map PyData.int)
      simp at this ⊢; omega
  case b2 =>
    refine Loop.inv (fun _ ρ μ => Sub [("first", .int X)] ρ ∧ μ = []) _ ?step ?fin ?init
    case init => exact ⟨.cons rfl .nil, rfl⟩
    case fin =>
      rintro ρ μ ⟨hS, rfl⟩
      refine Ex.cons (Ex1.ret Ev.bool rfl (.bool _))
    case step =>
      rintro i d ρ μ hd ⟨hS, rfl⟩
      obtain ⟨g, rfl, g0, g1⟩ := hgs d (List.mem_of_getElem? hd)
      refine ⟨_, Asg.name (.inr ⟨rfl, L + 1, rfl, hc 1⟩), ?_⟩
      refine Ex.weaken ?_ (Sub.both hS)
      clear hgs hd hks hkl
      have hVR : ∃ V RE : Int, (if g % 8 = 7 then (70 : Int) else 80) = V ∧ (if V = 70 then (16384 : Int) else 65536) = RE ∧ ((V = 70 ∧ RE = 16384) ∨ (V = 80 ∧ RE = 65536)) := by
        by_cases h : g % 8 = 7
        · exact ⟨70, 16384, if_pos h, rfl, .inl ⟨rfl, rfl⟩⟩
        · exact ⟨80, 65536, if_neg h, rfl, .inr ⟨rfl, rfl⟩⟩
      obtain ⟨V, RE, hV, hRE, hVR⟩ := hVR
      have re0 : 0 < RE := by omega
      have re1 : RE < 1073741824 := by omega
      refine Ex.cons ?_
      refine' Ex1.assign (d := .int V) ?d1 (.inl rfl) ?d2
      case d1 => exact Ev.eq (Ev.iteP (EvT.cmp (Ev.bin (Ev.name (by rfl)) Ev.int (BinJ.emod (by decide))) Ev.int CmpJ.ieq) Ev.int Ev.int) (congrArg D.int hV)
      refine Ex.cons ?_
      refine' Ex1.assign (d := .int RE) ?d3 (.inr ⟨rfl, L + 2, rfl, hc 2⟩) ?d4
      case d3 => exact Ev.eq (Ev.iteP (EvT.cmp (Ev.name (by rfl)) Ev.int CmpJ.ieq) Ev.int Ev.int) (congrArg D.int hRE)
      obtain ⟨b0, hb0, b00, b01⟩ : ∃ b0, X % RE = b0 ∧ 0 ≤ b0 ∧ b0 < RE := ⟨_, rfl, Int.emod_nonneg _ (by omega), Int.emod_lt_of_pos _ (by omega)⟩
      obtain ⟨b1, hb1, b10, b11⟩ : ∃ b1, (X / 65536 + X) % 256 = b1 ∧ 0 ≤ b1 ∧ b1 < 256 := ⟨_, rfl, Int.emod_nonneg _ (by omega), Int.emod_lt_of_pos _ (by omega)⟩
      refine Ex.cons ?_
      refine' Ex1.assign (d := .tup [.int b0, .int b1]) ?d5 (.inr ⟨rfl, L + 3, rfl, hc 3⟩) ?d6
      case d5 =>
        refine Ev.tuple (.cons (Ev.eq (Ev.bin (Ev.name (by rfl)) (Ev.name (by rfl)) (BinJ.emod re0)) (congrArg D.int hb0)) (.cons (Ev.eq (Ev.bin (Ev.bin (Ev.bin (Ev.name (by rfl)) Ev.int (BinJ.ediv (by decide) (by decide))) (Ev.name (by rfl)) BinJ.add) Ev.int (BinJ.emod (by decide))) (congrArg D.int hb1)) .nil)) (Nat.le_of_ble_eq_true rfl)
      refine Ex.cons ?_
      refine' Ex1.assignComp (ds := [.int 3, .int 4, .int 5, .int 6]) (ρc := [("given", .int g)]) (flagOf g) (SrcJ.range ?e1 (.cons Ev.int (.cons Ev.int .nil))) (by decide) ?e2 rfl rfl (by decide) (by decide) rfl ?e3 ?e4 ?e5 rfl rfl ?e6
      case e1 => walk_at "mv_glob"
      case e2 =>
        intro d hd
        simp at hd
        rcases hd with rfl | rfl | rfl | rfl <;> exact ⟨_, rfl⟩
      case e3 =>
        intro y c h
        obtain ⟨rfl, rfl⟩ := lookup_one h
        rfl
      case e4 =>
        intro p hp
        rw [List.mem_singleton.mp hp]
        exact ⟨rfl, rfl, .inl rfl, rfl⟩
      case e5 =>
        intro d hd C h
        simp at hd
        rcases hd with rfl | rfl | rfl | rfl
        · exact Ev.bin (Ev.bin (Ev.name (by rfl)) (Ev.eq (Ev.bin Ev.int (Ev.name (d := .int 3) (by rfl)) (BinJ.pow (by decide) (by decide +kernel))) (congrArg D.int (show (2 : Int) ^ (3 : Int).toNat = 8 from by decide +kernel))) (BinJ.ediv (by decide) (by decide))) Ev.int (BinJ.emod (by decide))
        · exact Ev.bin (Ev.bin (Ev.name (by rfl)) (Ev.eq (Ev.bin Ev.int (Ev.name (d := .int 4) (by rfl)) (BinJ.pow (by decide) (by decide +kernel))) (congrArg D.int (show (2 : Int) ^ (4 : Int).toNat = 16 from by decide +kernel))) (BinJ.ediv (by decide) (by decide))) Ev.int (BinJ.emod (by decide))
        · exact Ev.bin (Ev.bin (Ev.name (by rfl)) (Ev.eq (Ev.bin Ev.int (Ev.name (d := .int 5) (by rfl)) (BinJ.pow (by decide) (by decide +kernel))) (congrArg D.int (show (2 : Int) ^ (5 : Int).toNat = 32 from by decide +kernel))) (BinJ.ediv (by decide) (by decide))) Ev.int (BinJ.emod (by decide))
        · exact Ev.bin (Ev.bin (Ev.name (by rfl)) (Ev.eq (Ev.bin Ev.int (Ev.name (d := .int 6) (by rfl)) (BinJ.pow (by decide) (by decide +kernel))) (congrArg D.int (show (2 : Int) ^ (6 : Int).toNat = 64 from by decide +kernel))) (BinJ.ediv (by decide) (by decide))) Ev.int (BinJ.emod (by decide))
      obtain ⟨f0, f1, f2, f3, hfl, q0, q1, q2, q3⟩ : ∃ f0 f1 f2 f3 : Int, [PyData.int 3, .int 4, .int 5, .int 6].map (fun d => PyData.int (flagOf g d)) = [.int f0, .int f1, .int f2, .int f3] ∧ (f0 = 0 ∨ f0 = 1) ∧ (f1 = 0 ∨ f1 = 1) ∧ (f2 = 0 ∨ f2 = 1) ∧ (f3 = 0 ∨ f3 = 1) :=
        ⟨g / 8 % 2, g / 16 % 2, g / 32 % 2, g / 64 % 2, rfl, by omega, by omega, by omega, by omega⟩
      rw [hfl]
      refine Ex.cons ?_
      refine' Ex1.assign (d := .int (g / 128)) ?i1 (.inl rfl) ?i2
      case i1 => exact Ev.bin (Ev.name (by rfl)) Ev.int (BinJ.ediv (by decide) (by decide))
      obtain ⟨low, hlow, lo0, lo1⟩ : ∃ low, g / 128 % RE = low ∧ 0 ≤ low ∧ low < RE := ⟨_, rfl, Int.emod_nonneg _ (by omega), Int.emod_lt_of_pos _ (by omega)⟩
      obtain ⟨left, hleft, le0, le1⟩ : ∃ left, (g / 128 / RE + low) % 256 = left ∧ 0 ≤ left ∧ left < 256 := ⟨_, rfl, Int.emod_nonneg _ (by omega), Int.emod_lt_of_pos _ (by omega)⟩
      obtain ⟨high, hhigh, hi0, hi1⟩ : ∃ high, (g / 128 / RE / 256 + 3 * low + 1) % RE = high ∧ 0 ≤ high ∧ high < RE := ⟨_, rfl, Int.emod_nonneg _ (by omega), Int.emod_lt_of_pos _ (by omega)⟩
      obtain ⟨right, hright, ri0, ri1⟩ : ∃ right, (g / 128 / RE / 256 / RE + 5 * left + low) % 256 = right ∧ 0 ≤ right ∧ right < 256 := ⟨_, rfl, Int.emod_nonneg _ (by omega), Int.emod_lt_of_pos _ (by omega)⟩
      refine Ex.cons ?_
      refine' Ex1.assign (d := .int low) ?i3 (.inl rfl) ?i4
      case i3 => exact Ev.eq (Ev.bin (Ev.name (by rfl)) (Ev.name (by rfl)) (BinJ.emod re0)) (congrArg D.int hlow)
      refine Ex.cons ?_
      refine' Ex1.assign (d := .int left) ?i5 (.inl rfl) ?i6
      case i5 => exact Ev.eq (Ev.bin (Ev.bin (Ev.bin (Ev.name (by rfl)) (Ev.name (by rfl)) (BinJ.ediv re0 re1)) (Ev.name (by rfl)) BinJ.add) Ev.int (BinJ.emod (by decide))) (congrArg D.int hleft)
      refine Ex.cons ?_
      refine' Ex1.assign (d := .int high) ?i7 (.inl rfl) ?i8
      case i7 => exact Ev.eq (Ev.bin (Ev.bin (Ev.bin (Ev.bin (Ev.bin (Ev.name (by rfl)) (Ev.name (by rfl)) (BinJ.ediv re0 re1)) Ev.int (BinJ.ediv (by decide) (by decide))) (Ev.bin Ev.int (Ev.name (by rfl)) (BinJ.mul (IntMulOk.of_left (by decide +kernel)))) BinJ.add) Ev.int BinJ.add) (Ev.name (by rfl)) (BinJ.emod re0)) (congrArg D.int hhigh)
      refine Ex.cons ?_
      refine' Ex1.assign (d := .int right) ?i9 (.inl rfl) ?i10
      case i9 => exact Ev.eq (Ev.bin (Ev.bin (Ev.bin (Ev.bin (Ev.bin (Ev.bin (Ev.name (by rfl)) (Ev.name (by rfl)) (BinJ.ediv re0 re1)) Ev.int (BinJ.ediv (by decide) (by decide))) (Ev.name (by rfl)) (BinJ.ediv re0 re1)) (Ev.bin Ev.int (Ev.name (by rfl)) (BinJ.mul (IntMulOk.of_left (by decide +kernel)))) BinJ.add) (Ev.name (by rfl)) BinJ.add) Ev.int (BinJ.emod (by decide))) (congrArg D.int hright)
      refine Ex.cons ?_
      refine' Ex1.assign (d := .lst [T4 low left f0 f1, T4 high right f2 f3]) ?j1 (.inl rfl) ?j2
      case j1 => walk_at "mv_ev"
      obtain ⟨N, hN, hN2⟩ : ∃ N : Nat, (X % 3).toNat = N ∧ N ≤ 2 := ⟨_, rfl, by omega⟩
      refine Ex.cons ?_
      refine' Ex1.assign (d := .lst (List.replicate N (.int 255))) ?j3 (.inl rfl) ?j4
      case j3 => exact Ev.eq (Ev.mulL (Ev.bin (Ev.name (by rfl)) Ev.int (BinJ.emod (by decide))) (by omega) (by omega)) (by rw [hN])
      refine Ex.weaken (ρ' := [("given", .int g), ("first", .int X), ("version", .int V), ("reach", .int RE), ("base", .tup [.int b0, .int b1]), ("cells", .lst [T4 low left f0 f1, T4 high right f2 f3]), ("start", .lst (List.replicate N (.int 255)))]) ?_ (show Sub _ _ from .cons rfl (.cons rfl (.cons rfl (.cons rfl (.cons rfl (.cons rfl (.cons rfl .nil)))))))
      clear hV hRE hb0 hb1 hfl hlow hleft hhigh hright hN
      refine Ex.cons ?_
      refine' Ex1.for (ds := [.bool true, .bool false]) (Ev.list (.cons Ev.bool (.cons Ev.bool .nil))) ?k1 GoOk.name
      refine Loop.inv (fun _ ρ μ => Sub [("given", .int g), ("first", .int X), ("version", .int V), ("reach", .int RE), ("base", .tup [.int b0, .int b1]), ("cells", .lst [T4 low left f0 f1, T4 high right f2 f3]), ("start", .lst (List.replicate N (.int 255)))] ρ ∧ μ = []) _ ?l1 ?l2 ⟨Sub.refl, rfl⟩
      case l1 =>
        rintro i d ρ μ hd ⟨hS2, rfl⟩
        obtain ⟨t, rfl⟩ : ∃ t : Bool, d = .bool t := by
          match i, hd with
          | 0, hd => simp at hd; exact ⟨_, hd.symm⟩
          | 1, hd => simp at hd; exact ⟨_, hd.symm⟩
          | i + 2, hd => simp at hd
        refine ⟨_, Asg.name (.inl rfl), ?_⟩
        refine Ex.weaken ?_ (Sub.both hS2)
        clear hd hS2 hS
        refine Ex.cons (Ex1.newList (.inl rfl) fun du => ?_)
        refine Ex.cons (Ex1.newList (.inl rfl) fun wo => ?_)
        refine Ex.cons ?_
        refine' Ex1.for (ds := [T4 low left f0 f1, T4 high right f2 f3]) (Ev.name (by rfl)) ?m1 (GoOk.tuple ?m2)
        case m2 =>
          intro d hd
          simp at hd
          rcases hd with rfl | rfl <;> exact ⟨_, rfl⟩
        refine Loop.inv (fun i ρ μ => Sub (("words", .val (.ref wo)) :: ("due", .val (.ref du)) :: ("away", .bool t) :: [("given", .int g), ("first", .int X), ("version", .int V), ("reach", .int RE), ("base", .tup [.int b0, .int b1]), ("cells", .lst [T4 low left f0 f1, T4 high right f2 f3]), ("start", .lst (List.replicate N (.int 255)))]) ρ ∧
          μ = [(wo, [wdV V t RE b0 b1 low left f0 f1, wdV V t RE b0 b1 high right f2 f3].take i), (du, [T4 (dueV t RE b0 low f0) (dueV t 256 b1 left f1) f0 f1, T4 (dueV t RE b0 high f2) (dueV t 256 b1 right f3) f2 f3].take i)]) _ ?n1 ?n2 ⟨Sub.refl, rfl⟩
        case n1 =>
          rintro i d ρ μ hd ⟨hS3, rfl⟩
          have key : ∃ row col l f, d = T4 row col l f ∧ (l = 0 ∨ l = 1) ∧ (f = 0 ∨ f = 1) ∧ 0 ≤ row ∧ row < RE ∧ 0 ≤ col ∧ col < 256 ∧ i < 2 ∧
              [wdV V t RE b0 b1 low left f0 f1, wdV V t RE b0 b1 high right f2 f3].take (i + 1) = [wdV V t RE b0 b1 low left f0 f1, wdV V t RE b0 b1 high right f2 f3].take i ++ [wdV V t RE b0 b1 row col l f] ∧
              [T4 (dueV t RE b0 low f0) (dueV t 256 b1 left f1) f0 f1, T4 (dueV t RE b0 high f2) (dueV t 256 b1 right f3) f2 f3].take (i + 1) = [T4 (dueV t RE b0 low f0) (dueV t 256 b1 left f1) f0 f1, T4 (dueV t RE b0 high f2) (dueV t 256 b1 right f3) f2 f3].take i ++ [T4 (dueV t RE b0 row l) (dueV t 256 b1 col f) l f] := by
            match i, hd with
            | 0, hd => simp at hd; exact ⟨low, left, f0, f1, by simp [hd], q0, q1, lo0, lo1, le0, le1, by omega, rfl, rfl⟩
            | 1, hd => simp at hd; exact ⟨high, right, f2, f3, by simp [hd], q2, q3, hi0, hi1, ri0, ri1, by omega, rfl, rfl⟩
            | i + 2, hd => simp at hd
          obtain ⟨row, col, l, f, rfl, hl, hf, r0, r1, c0, c1, hi2, e1, e2⟩ := key
          rw [e1, e2]
          have us2 : ([wdV V t RE b0 b1 low left f0 f1, wdV V t RE b0 b1 high right f2 f3].take i).length ≤ 2 := by simp; omega
          have ws2 : ([T4 (dueV t RE b0 low f0) (dueV t 256 b1 left f1) f0 f1, T4 (dueV t RE b0 high f2) (dueV t 256 b1 right f3) f2 f3].take i).length ≤ 2 := by simp; omega
          clear e1 e2 hd hi2
          generalize [wdV V t RE b0 b1 low left f0 f1, wdV V t RE b0 b1 high right f2 f3].take i = ws at us2 ⊢
          generalize [T4 (dueV t RE b0 low f0) (dueV t 256 b1 left f1) f0 f1, T4 (dueV t RE b0 high f2) (dueV t 256 b1 right f3) f2 f3].take i = us at ws2 ⊢
          refine ⟨_, Asg.tuple (.cons (Asg.name (.inl rfl)) (fun _ => rfl) (.cons (Asg.name (.inl rfl)) (fun _ => rfl) (.cons (Asg.name (.inl rfl)) (fun _ => rfl) (.cons (Asg.name (.inl rfl)) (fun _ => rfl) .nil)))), ?_⟩
          refine Ex.weaken ?_ (Sub.both (Sub.both (Sub.both (Sub.both hS3))))
          clear hS3
          refine Ex.cons ?_
          refine' Ex1.mono (N := fun ρ' μ' => Sub [("row", .int row), ("column", .int col), ("loose", .int l), ("free", .int f), ("words", .val (.ref wo)), ("due", .val (.ref du)), ("away", .bool t), ("given", .int g), ("first", .int X), ("version", .int V), ("reach", .int RE), ("base", .tup [.int b0, .int b1]), ("cells", .lst [T4 low left f0 f1, T4 high right f2 f3]), ("start", .lst (List.replicate N (.int 255)))] ρ' ∧ μ' = [(wo, ws), (du, us ++ [T4 (dueV t RE b0 row l) (dueV t 256 b1 col f) l f])]) (Ex1.ite (b := t) (EvT.of_value (Ev.name (by rfl)) TruJ.bool) (fun ht => ?o1) (fun ht => ?o2)) ?o3
          case o1 =>
            subst ht
            refine Ex.cons ?_
            refine' Ex1.append1 (x := "due") (a := du) (ds := us) (d := T4 (dueV true RE b0 row l) (dueV true 256 b1 col f) l f) ?p0 ?p1 ?p2 (by omega) ?p3
            case p0 => rfl
            case p3 => rfl
            case p1 =>
              refine Ev.tuple (.cons (Ev.eq (Ev.iteP (EvT.cmp (Ev.name (by rfl)) Ev.int CmpJ.ieq) ?r1 (Ev.name (by rfl))) (congrArg D.int (show _ = dueV true RE b0 row l by unfold dueV; rw [if_pos rfl]))) (.cons (Ev.eq (Ev.iteP (EvT.cmp (Ev.name (by rfl)) Ev.int CmpJ.ieq) ?r2 (Ev.name (by rfl))) (congrArg D.int (show _ = dueV true 256 b1 col f by unfold dueV; rw [if_pos rfl]))) (.cons (Ev.name (by rfl)) (.cons (Ev.name (by rfl)) .nil)))) (Nat.le_of_ble_eq_true rfl)
              case r1 =>
                refine' Ev.callG ?s1 ?s2 (.cons (EvA.of (Ev.bin (Ev.name (by rfl)) (Ev.sub (Ev.name (d := .tup [.int b0, .int b1]) (by rfl)) Ev.int (SubJ.tup (by decide) (by rfl))) BinJ.sub)) (.cons (EvA.of (Ev.name (by rfl))) .nil)) ((near_callE _ _ re0 (by omega)).le (Nat.le_of_ble_eq_true rfl)) (List.cons_ne_nil _ _)
                case s1 => walk_at "mv_glob"
                case s2 => walk_at "mv_callee"
              case r2 =>
                refine' Ev.callG ?s3 ?s4 (.cons (EvA.of (Ev.bin (Ev.name (by rfl)) (Ev.sub (Ev.name (d := .tup [.int b0, .int b1]) (by rfl)) Ev.int (SubJ.tup (by decide) (by rfl))) BinJ.sub)) (.cons (EvA.of Ev.int) .nil)) ((near_callE _ _ (by decide) (by decide)).le (Nat.le_of_ble_eq_true rfl)) (List.cons_ne_nil _ _)
                case s3 => walk_at "mv_glob"
                case s4 => walk_at "mv_callee"
            refine Ex.nil ⟨?_, rfl⟩
            exact .cons rfl (.cons rfl (.cons rfl (.cons rfl (.skip (.skip (.skip (.skip Sub.refl)))))))
          case o2 =>
            subst ht
            refine Ex.cons ?_
            refine' Ex1.append1 (x := "due") (a := du) (ds := us) (d := T4 (dueV false RE b0 row l) (dueV false 256 b1 col f) l f) ?t0 ?t1 ?t2 (by omega) ?t3
            case t0 => rfl
            case t3 => rfl
            case t1 =>
              exact Ev.tuple (.cons (Ev.eq (Ev.iteP (EvT.cmp (Ev.name (by rfl)) Ev.int CmpJ.ieq) (Ev.bin (Ev.name (by rfl)) (Ev.sub (Ev.name (d := .tup [.int b0, .int b1]) (by rfl)) Ev.int (SubJ.tup (by decide) (by rfl))) BinJ.sub) (Ev.name (by rfl))) (congrArg D.int (show _ = dueV false RE b0 row l by unfold dueV; rw [if_neg (c := (false = true)) (by decide)]))) (.cons (Ev.eq (Ev.iteP (EvT.cmp (Ev.name (by rfl)) Ev.int CmpJ.ieq) (Ev.bin (Ev.name (by rfl)) (Ev.sub (Ev.name (d := .tup [.int b0, .int b1]) (by rfl)) Ev.int (SubJ.tup (by decide) (by rfl))) BinJ.sub) (Ev.name (by rfl))) (congrArg D.int (show _ = dueV false 256 b1 col f by unfold dueV; rw [if_neg (c := (false = true)) (by decide)]))) (.cons (Ev.name (by rfl)) (.cons (Ev.name (by rfl)) .nil)))) (Nat.le_of_ble_eq_true rfl)
            refine Ex.nil ⟨?_, rfl⟩
            exact .cons rfl (.cons rfl (.cons rfl (.cons rfl (.skip (.skip (.skip (.skip Sub.refl)))))))
          case o3 =>
            rintro ρ' μ' ⟨hS4, rfl⟩
            refine Ex.weaken ?_ hS4
            clear hS4
            have tst : decide (l = 1 ∧ t = true) = (decide (l = 1) && t) := by cases t <;> simp
            have tsf : decide (f = 1 ∧ t = true) = (decide (f = 1) && t) := by cases t <;> simp
            refine Ex.cons ?_
            refine' Ex1.assign (d := .int (stoV t RE b0 row l)) ?u1 (.inl rfl) ?u2
            case u1 => exact Ev.eq (Ev.iteP (p := l = 1 ∧ t = true) (EvT.eq (EvT.and2 (EvT.cmp (Ev.name (by rfl)) Ev.int CmpJ.ieq) (fun _ => EvT.of_value (Ev.name (by rfl)) TruJ.bool)) tst.symm) (Ev.bin (Ev.bin (Ev.name (by rfl)) (Ev.sub (Ev.name (d := .tup [.int b0, .int b1]) (by rfl)) Ev.int (SubJ.tup (by decide) (by rfl))) BinJ.sub) (Ev.name (by rfl)) (BinJ.emod re0)) (Ev.name (by rfl))) (congrArg D.int (show _ = stoV t RE b0 row l by unfold stoV; rfl))
            refine Ex.cons ?_
            refine' Ex1.assign (d := .int (stoV t 256 b1 col f)) ?u3 (.inl rfl) ?u4
            case u3 => exact Ev.eq (Ev.iteP (p := f = 1 ∧ t = true) (EvT.eq (EvT.and2 (EvT.cmp (Ev.name (by rfl)) Ev.int CmpJ.ieq) (fun _ => EvT.of_value (Ev.name (by rfl)) TruJ.bool)) tsf.symm) (Ev.bin (Ev.bin (Ev.name (by rfl)) (Ev.sub (Ev.name (d := .tup [.int b0, .int b1]) (by rfl)) Ev.int (SubJ.tup (by decide) (by rfl))) BinJ.sub) Ev.int (BinJ.emod (by decide))) (Ev.name (by rfl))) (congrArg D.int (show _ = stoV t 256 b1 col f by unfold stoV; rfl))
            refine Ex.cons ?_
            refine' Ex1.assign (d := .int (mk l f)) ?u5 (.inl rfl) ?u6
            case u5 => exact Ev.bin (Ev.bin Ev.int (Ev.name (by rfl)) (BinJ.mul (IntMulOk.of_left (by decide +kernel)))) (Ev.bin Ev.int (Ev.name (by rfl)) (BinJ.mul (IntMulOk.of_left (by decide +kernel)))) BinJ.add
            refine Ex.cons ?_
            rcases hVR with ⟨rfl, rfl⟩ | ⟨rfl, rfl⟩
            · refine' Ex1.ite (EvT.eq (EvT.cmp (Ev.name (by rfl)) Ev.int CmpJ.ieq) (show _ = false by decide)) (fun h => by cases h) (fun _ => ?v1)
              refine Ex.cons ?_
              refine' Ex1.append0 (x := "words") (a := wo) (ds := ws) (d := wdV 70 t 16384 b0 b1 row col l f) ?w0 ?w1 ?w2 (by omega) ?w3
              case w0 => rfl
              case w3 => rfl
              case w1 =>
                refine Ev.eq (Ev.tuple (.cons ?x1 (.cons (Ev.list (.cons (Ev.name (by rfl)) .nil) (Nat.le_of_ble_eq_true rfl)) .nil)) (Nat.le_of_ble_eq_true rfl)) (show _ = D.py (wdV 70 t 16384 b0 b1 row col l f) by unfold wdV; rw [if_neg (by decide)])
                case x1 =>
                  refine' Ev.callG ?x2 ?x3 (.cons (EvA.of (Ev.bin (Ev.name (by rfl)) (Ev.name (by rfl)) BinJ.add)) .nil) ((word_call _).le (Nat.le_of_ble_eq_true rfl)) (List.cons_ne_nil _ _)
                  case x2 => walk_at "mv_glob"
                  case x3 => walk_at "mv_callee"
              refine Ex.nil (Ex.nil ⟨?_, rfl⟩)
              exact .skip (.skip (.skip (.skip (.skip (.skip (.skip Sub.refl))))))
            · refine' Ex1.ite (EvT.eq (EvT.cmp (Ev.name (by rfl)) Ev.int CmpJ.ieq) (show _ = true by decide)) (fun _ => ?y1) (fun h => by cases h)
              refine Ex.cons ?_
              refine' Ex1.append0 (x := "words") (a := wo) (ds := ws) (d := wdV 80 t 65536 b0 b1 row col l f) ?z0 ?z1 ?z2 (by omega) ?z3
              case z0 => rfl
              case z3 => rfl
              case z1 =>
                refine Ev.eq (Ev.tuple (.cons ?aa1 (.cons ?aa2 .nil)) (Nat.le_of_ble_eq_true rfl)) (show _ = D.py (wdV 80 t 65536 b0 b1 row col l f) by unfold wdV; rw [if_pos rfl])
                case aa1 =>
                  refine' Ev.callG ?ab1 ?ab2 (.cons (EvA.of (Ev.name (by rfl))) .nil) ((word_call _).le (Nat.le_of_ble_eq_true rfl)) (List.cons_ne_nil _ _)
                  case ab1 => walk_at "mv_glob"
                  case ab2 => walk_at "mv_callee"
                case aa2 =>
                  refine' Ev.callG ?ab3 ?ab4 (.cons (EvA.of (Ev.bin (Ev.name (by rfl)) (Ev.name (by rfl)) BinJ.add)) .nil) ((word_call _).le (Nat.le_of_ble_eq_true rfl)) (List.cons_ne_nil _ _)
                  case ab3 => walk_at "mv_glob"
                  case ab4 => walk_at "mv_callee"
              refine Ex.cons (Ex1.guard ?ac1 ?ac2)
              case ac1 =>
                cases t with
                | false => exact EvT.and2F (EvT.of_value (Ev.name (by rfl)) TruJ.bool)
                | true =>
                  refine EvT.and2T (EvT.of_value (Ev.name (by rfl)) TruJ.bool) (EvT.cmp ?ad1 (Ev.lastOwn (a := du) (Ev.name (by rfl)) (.tail _ (.head _)) (by simp) (by simp; omega)) (CmpJ.dneR (d := T4 (dueV true 65536 b0 row l) (dueV true 256 b1 col f) l f)))
                  case ad1 =>
                    refine' Ev.eq (Ev.callG ?ad2 ?ad3 (.cons (EvA.of (Ev.name (by rfl))) (.cons (EvA.of (Ev.bin (Ev.name (by rfl)) (Ev.name (by rfl)) BinJ.add)) .nil)) ((expand_call _ _).le (Nat.le_of_ble_eq_true rfl)) (List.cons_ne_nil _ _)) (adj80T hl hf r0 r1 c0 c1)
                    case ad2 => walk_at "mv_glob"
                    case ad3 => walk_at "mv_callee"
              refine Ex.nil (Ex.nil ⟨?_, rfl⟩)
              exact .skip (.skip (.skip (.skip (.skip (.skip (.skip Sub.refl))))))
        case n2 =>
          rintro ρ μ ⟨hS3, rfl⟩
          refine Ex.weaken ?_ hS3
          clear hS3
          refine Ex.freeze (μ₁ := []) (x := "words") (a := wo) (ds := [wdV V t RE b0 b1 low left f0 f1, wdV V t RE b0 b1 high right f2 f3]) (by rfl) ?_
          refine Ex.freeze (μ₁ := []) (μ₂ := []) (x := "due") (a := du) (ds := [T4 (dueV t RE b0 low f0) (dueV t 256 b1 left f1) f0 f1, T4 (dueV t RE b0 high f2) (dueV t 256 b1 right f3) f2 f3]) (by rfl) ?_
          have hrep : List.replicate N (PyData.int 255) = (List.replicate N (255 : Int)).map PyData.int := by simp
          have st1 := sto_lt (t := t) (b := b0) (l := f0) lo0 lo1
          have st2 := sto_lt (t := t) (b := b0) (l := f2) hi0 hi1
          have sm1 := sto_lt (t := t) (re := 256) (b := b1) (l := f1) le0 le1
          have sm2 := sto_lt (t := t) (re := 256) (b := b1) (l := f3) ri0 ri1
          rcases hVR with ⟨rfl, rfl⟩ | ⟨rfl, rfl⟩
          · skip
            have hw : ∀ row col l f, wdV 70 t 16384 b0 b1 row col l f = .tuple [.list [.int ((stoV t 16384 b0 row l + mk l f) % 256), .int ((stoV t 16384 b0 row l + mk l f) / 256)], .list [.int (stoV t 256 b1 col f)]] := fun _ _ _ _ => by unfold wdV; rw [if_neg (by decide)]
            rw [hw, hw]
            have ca1 := adj70c (t := t) (b0 := b0) (b1 := b1) q0 q1 lo0 lo1 le0 le1
            have ca2 := adj70c (t := t) (b0 := b0) (b1 := b1) q2 q3 hi0 hi1 ri0 ri1
            have bm1 : 0 ≤ stoV t 16384 b0 low f0 + mk f0 f1 ∧ stoV t 16384 b0 low f0 + mk f0 f1 < 65536 := by unfold mk; omega
            have bm2 : 0 ≤ stoV t 16384 b0 high f2 + mk f2 f3 ∧ stoV t 16384 b0 high f2 + mk f2 f3 < 65536 := by unfold mk; omega
            generalize stoV t 16384 b0 low f0 + mk f0 f1 = s1 at *
            generalize stoV t 16384 b0 high f2 + mk f2 f3 = s2 at *
            generalize stoV t 256 b1 left f1 = m1 at *
            generalize stoV t 256 b1 right f3 = m2 at *
            refine Ex.cons ?_
            refine' Ex1.assign (d := .lst ((List.replicate N (255 : Int) ++ ([s1 % 256, s1 / 256, m1] ++ [])).map PyData.int)) ?sg1x (.inl rfl) ?sg2x
            case sg1x => exact Ev.eq (Ev.bin (Ev.bin (Ev.eq (Ev.name (by rfl)) (congrArg D.lst hrep)) (Ev.sub (Ev.sub (Ev.name (by rfl)) Ev.int (SubJ.lst (by decide) (by rfl))) Ev.int (SubJ.tup (by decide) (by rfl))) (BinJ.addI (xs := List.replicate N (255 : Int)) (ys := [s1 % 256, s1 / 256]) (by simp; try omega))) (Ev.sub (Ev.sub (Ev.name (by rfl)) Ev.int (SubJ.lst (by decide) (by rfl))) Ev.int (SubJ.tup (by decide) (by rfl))) (BinJ.addI (xs := List.replicate N (255 : Int) ++ [s1 % 256, s1 / 256]) (ys := [m1]) (by simp; try omega))) (congrArg D.lst (by simp))
            refine Ex.cons ?_
            refine' Ex1.assign (d := .lst ((List.replicate N (255 : Int) ++ ([s1 % 256, s1 / 256, s2 % 256, s2 / 256, m1, m2] ++ [])).map PyData.int)) ?sg3x (.inl rfl) ?sg4x
            case sg3x => exact Ev.eq (Ev.bin (Ev.bin (Ev.bin (Ev.bin (Ev.eq (Ev.name (by rfl)) (congrArg D.lst hrep)) (Ev.sub (Ev.sub (Ev.name (by rfl)) Ev.int (SubJ.lst (by decide) (by rfl))) Ev.int (SubJ.tup (by decide) (by rfl))) (BinJ.addI (xs := List.replicate N (255 : Int)) (ys := [s1 % 256, s1 / 256]) (by simp; try omega))) (Ev.sub (Ev.sub (Ev.name (by rfl)) Ev.int (SubJ.lst (by decide) (by rfl))) Ev.int (SubJ.tup (by decide) (by rfl))) (BinJ.addI (xs := List.replicate N (255 : Int) ++ [s1 % 256, s1 / 256]) (ys := [s2 % 256, s2 / 256]) (by simp; try omega))) (Ev.sub (Ev.sub (Ev.name (by rfl)) Ev.int (SubJ.lst (by decide) (by rfl))) Ev.int (SubJ.tup (by decide) (by rfl))) (BinJ.addI (xs := List.replicate N (255 : Int) ++ [s1 % 256, s1 / 256] ++ [s2 % 256, s2 / 256]) (ys := [m1]) (by simp; try omega))) (Ev.sub (Ev.sub (Ev.name (by rfl)) Ev.int (SubJ.lst (by decide) (by rfl))) Ev.int (SubJ.tup (by decide) (by rfl))) (BinJ.addI (xs := List.replicate N (255 : Int) ++ [s1 % 256, s1 / 256] ++ [s2 % 256, s2 / 256] ++ [m1]) (ys := [m2]) (by simp; try omega))) (congrArg D.lst (by simp))
            refine Ex.cons ?_
            refine' Ex1.assign (d := .int N) ?sg5x (.inl rfl) ?sg6x
            case sg5x =>
              refine' Ev.eq (Ev.callG ?sg7x cle_b (.cons (EvA.of (Ev.name (by rfl))) .nil) (CallJ.lenL (by simp; omega)) (List.cons_ne_nil _ _)) (congrArg D.int (by simp))
              case sg7x => walk_at "mv_glob"
            have byt : ∀ x ∈ List.replicate N (255 : Int) ++ ([s1 % 256, s1 / 256, m1] ++ []), 0 ≤ x ∧ x < 256 := by
              intro x hx
              simp only [List.mem_append, List.mem_replicate, List.mem_cons, List.not_mem_nil, or_false] at hx
              omega
            have byt2 : ∀ x ∈ List.replicate N (255 : Int) ++ ([s1 % 256, s1 / 256, s2 % 256, s2 / 256, m1, m2] ++ []), 0 ≤ x ∧ x < 256 := by
              intro x hx
              simp only [List.mem_append, List.mem_replicate, List.mem_cons, List.not_mem_nil, or_false] at hx
              omega
            have cg := get7 (bs := byteArr (List.replicate N (255 : Int) ++ ([s1 % 256, s1 / 256, m1] ++ []))) (p := N) (by omega) (by rw [byteArr_size]; simp; try omega) (by rw [byteArr_size]; simp; omega) (cutB_at N 255 [s1 % 256, s1 / 256, m1] [] _ (by simp)) ⟨by omega, by omega⟩ ⟨by omega, by omega⟩ ⟨by omega, by omega⟩ ca1 plain4
            have cr := range7 (bs := byteArr (List.replicate N (255 : Int) ++ ([s1 % 256, s1 / 256, s2 % 256, s2 / 256, m1, m2] ++ []))) (p := N) (by omega) (by rw [byteArr_size]; simp; try omega) (by rw [byteArr_size]; simp; omega) (cutB_at N 255 [s1 % 256, s1 / 256, s2 % 256, s2 / 256, m1, m2] [] _ (by simp)) ⟨by omega, by omega⟩ ⟨by omega, by omega⟩ ⟨by omega, by omega⟩ ⟨by omega, by omega⟩ ⟨by omega, by omega⟩ ⟨by omega, by omega⟩ ca1 ca2 plain4 plain4
            refine Ex.cons (Ex1.guard ?ga1x ?ga2x)
            case ga1x =>
              refine EvT.cmp (Ev.callG ?gb1x ?gb2x (.cons (EvA.of (Ev.callG ?gb3x cle_t (.cons (EvA.of (Ev.name (by rfl))) .nil) (CallJ.bytes byt (by simp; omega)) (List.cons_ne_nil _ _))) (.cons (EvA.of (Ev.name (by rfl))) (.cons (EvA.of (Ev.name (by rfl))) (.cons (EvA.of (Ev.name (by rfl))) (.cons (EvA.of (Ev.sub (Ev.name (d := .tup [.int b0, .int b1]) (by rfl)) Ev.int (SubJ.tup (by decide) (by rfl)))) (.cons (EvA.of (Ev.sub (Ev.name (d := .tup [.int b0, .int b1]) (by rfl)) Ev.int (SubJ.tup (by decide) (by rfl)))) .nil)))))) (cg.le (Nat.le_of_ble_eq_true rfl)) (List.cons_ne_nil _ _)) (Ev.sub (Ev.name (by rfl)) Ev.int (SubJ.lst (d := T4 (dueV t 16384 b0 low f0) (dueV t 256 b1 left f1) f0 f1) (by decide) (by rfl))) (CmpJ.dneR (d := T4 (dueV t 16384 b0 low f0) (dueV t 256 b1 left f1) f0 f1))
              case gb1x => walk_at "mv_glob"
              case gb2x => walk_at "mv_callee"
              case gb3x => walk_at "mv_glob"
            refine Ex.cons (Ex1.guard ?gc1x ?gc2x)
            case gc1x =>
              refine EvT.cmp (Ev.callG ?gd1x ?gd2x (.cons (EvA.of (Ev.callG ?gd3x cle_t (.cons (EvA.of (Ev.name (by rfl))) .nil) (CallJ.bytes byt2 (by simp; omega)) (List.cons_ne_nil _ _))) (.cons (EvA.of (Ev.name (by rfl))) (.cons (EvA.of (Ev.name (by rfl))) (.cons (EvA.of (Ev.name (by rfl))) (.cons (EvA.of (Ev.sub (Ev.name (d := .tup [.int b0, .int b1]) (by rfl)) Ev.int (SubJ.tup (by decide) (by rfl)))) (.cons (EvA.of (Ev.sub (Ev.name (d := .tup [.int b0, .int b1]) (by rfl)) Ev.int (SubJ.tup (by decide) (by rfl)))) .nil)))))) (cr.le (Nat.le_of_ble_eq_true rfl)) (List.cons_ne_nil _ _)) (Ev.tuple (.cons (Ev.sub (Ev.name (by rfl)) Ev.int (SubJ.lst (d := T4 (dueV t 16384 b0 low f0) (dueV t 256 b1 left f1) f0 f1) (by decide) (by rfl))) (.cons (Ev.sub (Ev.name (by rfl)) Ev.int (SubJ.lst (d := T4 (dueV t 16384 b0 high f2) (dueV t 256 b1 right f3) f2 f3) (by decide) (by rfl))) .nil)) (Nat.le_of_ble_eq_true rfl)) (CmpJ.dneR (d := .tuple [T4 (dueV t 16384 b0 low f0) (dueV t 256 b1 left f1) f0 f1, T4 (dueV t 16384 b0 high f2) (dueV t 256 b1 right f3) f2 f3]))
              case gd1x => walk_at "mv_glob"
              case gd2x => walk_at "mv_callee"
              case gd3x => walk_at "mv_glob"
            refine Ex.cons ?_
            refine' Ex1.assign (d := .bool (decide (Spec.countIn (.bool false) (([T4 (dueV t 16384 b0 low f0) (dueV t 256 b1 left f1) f0 f1, T4 (dueV t 16384 b0 high f2) (dueV t 256 b1 right f3) f2 f3].filter pzW).map (fzW b0 16384)) = 0))) ?wh1x (.inl rfl) ?wh2x
            case wh1x =>
              refine Ev.orB (b1 := false) (Ev.eq (Ev.cmp (Ev.name (by rfl)) Ev.int CmpJ.ieq) (congrArg D.bool (show _ = false by decide))) (fun _ => Ev.cmp (Ev.count (EvL.comp (ds := [T4 (dueV t 16384 b0 low f0) (dueV t 256 b1 left f1) f0 f1, T4 (dueV t 16384 b0 high f2) (dueV t 256 b1 right f3) f2 f3]) (ρc := [("base", .tup [.int b0, .int b1]), ("reach", .int 16384)]) pzW (fzW b0 16384) (SrcJ.list (Ev.name (by rfl))) (Nat.le_of_ble_eq_true rfl) rfl rfl (by decide) (by decide) rfl ?wc1x ?wc2x ?wc3x ?wc4x ?wc5x) ?wc6x) Ev.int CmpJ.ieq)
              case wc1x =>
                intro y c h
                rcases lookup_two h with ⟨rfl, rfl⟩ | ⟨rfl, rfl⟩ <;> rfl
              case wc2x =>
                intro p hp
                simp only [List.mem_cons, List.not_mem_nil, or_false] at hp
                rcases hp with rfl | rfl <;> exact ⟨rfl, rfl, .inl rfl, rfl⟩
              case wc3x =>
                intro d hd C h
                simp only [List.mem_cons, List.not_mem_nil, or_false] at hd
                rcases hd with rfl | rfl <;> exact EvTests.one (EvT.eq (EvT.cmp (Ev.sub (Ev.name (by rfl)) Ev.int (SubJ.tup (by decide) (by rfl))) Ev.int CmpJ.ieq) rfl)
              case wc4x =>
                intro d hd _ C h
                simp only [List.mem_cons, List.not_mem_nil, or_false] at hd
                rcases hd with rfl | rfl <;> exact Ev.chain Ev.int (Ev.bin (Ev.sub (Ev.name (by rfl)) Ev.int (SubJ.tup (by decide) (by rfl))) (Ev.sub (Ev.name (by rfl)) Ev.int (SubJ.tup (by decide) (by rfl))) BinJ.add) (Ev.name (by rfl))
              case wc5x =>
                intro d hd _
                simp only [List.mem_cons, List.not_mem_nil, or_false] at hd
                rcases hd with rfl | rfl <;> exact .inr ⟨_, rfl⟩
              case wc6x =>
                refine List.all_eq_true.mpr fun d hd => ?_
                obtain ⟨e, he, rfl⟩ := List.mem_map.mp hd
                have he := (List.mem_filter.mp he).1
                simp only [List.mem_cons, List.not_mem_nil, or_false] at he
                rcases he with rfl | rfl <;> rfl
            have hwo := fun h => whole_of (b0 := b0) (RE := 16384) (r1 := dueV t 16384 b0 low f0) (c1 := dueV t 256 b1 left f1) (l1 := f0) (f1 := f1) (r2 := dueV t 16384 b0 high f2) (c2 := dueV t 256 b1 right f3) (l2 := f2) (f2 := f3) h
            generalize Spec.countIn (.bool false) (([T4 (dueV t 16384 b0 low f0) (dueV t 256 b1 left f1) f0 f1, T4 (dueV t 16384 b0 high f2) (dueV t 256 b1 right f3) f2 f3].filter pzW).map (fzW b0 16384)) = cnt at hwo ⊢
            have G1 := good_of (t := t) (wh := decide (cnt = 0)) (.inl rfl) q0 q1 lo0 lo1 le0 le1 b00 b01 b10 b11 (fun _ h h1 => (hwo (of_decide_eq_true h)).1 h1)
            have G2 := good_of (t := t) (wh := decide (cnt = 0)) (.inl rfl) q2 q3 hi0 hi1 ri0 ri1 b00 b01 b10 b11 (fun _ h h1 => (hwo (of_decide_eq_true h)).2 h1)
            have cn := names_call b0 b1 _ _ re0 _ _ _ _ _ _ _ _ _ _ _ _ G1 G2
            refine Ex.cons (Ex1.guard ?ge1x ?ge2x)
            case ge1x =>
              refine EvT.eq (EvT.not (EvT.of_value (Ev.callG ?gf1x ?gf2x (.cons (EvA.of (Ev.name (by rfl))) (.cons (EvA.of (Ev.name (by rfl))) (.cons (EvA.of (Ev.name (by rfl))) (.cons (EvA.of (Ev.name (by rfl))) (.cons (EvA.of (Ev.name (by rfl))) .nil))))) (cn.le (Nat.le_of_ble_eq_true rfl)) (List.cons_ne_nil _ _)) TruJ.bool)) rfl
              case gf1x => walk_at "mv_glob"
              case gf2x => walk_at "mv_callee"
            refine Ex.nil ⟨?_, rfl⟩
            exact .skip (.skip (.skip (.skip (.skip (.skip (.skip (.skip (.skip Sub.refl))))))))
          · skip
            have hw : ∀ row col l f, wdV 80 t 65536 b0 b1 row col l f = .tuple [.list [.int (stoV t 65536 b0 row l % 256), .int (stoV t 65536 b0 row l / 256)], .list [.int ((stoV t 256 b1 col f + mk l f) % 256), .int ((stoV t 256 b1 col f + mk l f) / 256)]] := fun _ _ _ _ => by unfold wdV; rw [if_pos rfl]
            rw [hw, hw]
            have ca1 := adj80c (t := t) (b0 := b0) (b1 := b1) q0 q1 lo0 lo1 le0 le1
            have ca2 := adj80c (t := t) (b0 := b0) (b1 := b1) q2 q3 hi0 hi1 ri0 ri1
            generalize stoV t 65536 b0 low f0 = s1 at *
            generalize stoV t 65536 b0 high f2 = s2 at *
            have bm1 : 0 ≤ stoV t 256 b1 left f1 + mk f0 f1 ∧ stoV t 256 b1 left f1 + mk f0 f1 < 65536 := by unfold mk; omega
            have bm2 : 0 ≤ stoV t 256 b1 right f3 + mk f2 f3 ∧ stoV t 256 b1 right f3 + mk f2 f3 < 65536 := by unfold mk; omega
            generalize stoV t 256 b1 left f1 + mk f0 f1 = m1 at *
            generalize stoV t 256 b1 right f3 + mk f2 f3 = m2 at *
            refine Ex.cons ?_
            refine' Ex1.assign (d := .lst ((List.replicate N (255 : Int) ++ ([s1 % 256, s1 / 256, m1 % 256, m1 / 256] ++ [])).map PyData.int)) ?sg1y (.inl rfl) ?sg2y
            case sg1y => exact Ev.eq (Ev.bin (Ev.bin (Ev.eq (Ev.name (by rfl)) (congrArg D.lst hrep)) (Ev.sub (Ev.sub (Ev.name (by rfl)) Ev.int (SubJ.lst (by decide) (by rfl))) Ev.int (SubJ.tup (by decide) (by rfl))) (BinJ.addI (xs := List.replicate N (255 : Int)) (ys := [s1 % 256, s1 / 256]) (by simp; try omega))) (Ev.sub (Ev.sub (Ev.name (by rfl)) Ev.int (SubJ.lst (by decide) (by rfl))) Ev.int (SubJ.tup (by decide) (by rfl))) (BinJ.addI (xs := List.replicate N (255 : Int) ++ [s1 % 256, s1 / 256]) (ys := [m1 % 256, m1 / 256]) (by simp; try omega))) (congrArg D.lst (by simp))
            refine Ex.cons ?_
            refine' Ex1.assign (d := .lst ((List.replicate N (255 : Int) ++ ([s1 % 256, s1 / 256, s2 % 256, s2 / 256, m1 % 256, m1 / 256, m2 % 256, m2 / 256] ++ [])).map PyData.int)) ?sg3y (.inl rfl) ?sg4y
            case sg3y => exact Ev.eq (Ev.bin (Ev.bin (Ev.bin (Ev.bin (Ev.eq (Ev.name (by rfl)) (congrArg D.lst hrep)) (Ev.sub (Ev.sub (Ev.name (by rfl)) Ev.int (SubJ.lst (by decide) (by rfl))) Ev.int (SubJ.tup (by decide) (by rfl))) (BinJ.addI (xs := List.replicate N (255 : Int)) (ys := [s1 % 256, s1 / 256]) (by simp; try omega))) (Ev.sub (Ev.sub (Ev.name (by rfl)) Ev.int (SubJ.lst (by decide) (by rfl))) Ev.int (SubJ.tup (by decide) (by rfl))) (BinJ.addI (xs := List.replicate N (255 : Int) ++ [s1 % 256, s1 / 256]) (ys := [s2 % 256, s2 / 256]) (by simp; try omega))) (Ev.sub (Ev.sub (Ev.name (by rfl)) Ev.int (SubJ.lst (by decide) (by rfl))) Ev.int (SubJ.tup (by decide) (by rfl))) (BinJ.addI (xs := List.replicate N (255 : Int) ++ [s1 % 256, s1 / 256] ++ [s2 % 256, s2 / 256]) (ys := [m1 % 256, m1 / 256]) (by simp; try omega))) (Ev.sub (Ev.sub (Ev.name (by rfl)) Ev.int (SubJ.lst (by decide) (by rfl))) Ev.int (SubJ.tup (by decide) (by rfl))) (BinJ.addI (xs := List.replicate N (255 : Int) ++ [s1 % 256, s1 / 256] ++ [s2 % 256, s2 / 256] ++ [m1 % 256, m1 / 256]) (ys := [m2 % 256, m2 / 256]) (by simp; try omega))) (congrArg D.lst (by simp))
            refine Ex.cons ?_
            refine' Ex1.assign (d := .int N) ?sg5y (.inl rfl) ?sg6y
            case sg5y =>
              refine' Ev.eq (Ev.callG ?sg7y cle_b (.cons (EvA.of (Ev.name (by rfl))) .nil) (CallJ.lenL (by simp; omega)) (List.cons_ne_nil _ _)) (congrArg D.int (by simp))
              case sg7y => walk_at "mv_glob"
            have byt : ∀ x ∈ List.replicate N (255 : Int) ++ ([s1 % 256, s1 / 256, m1 % 256, m1 / 256] ++ []), 0 ≤ x ∧ x < 256 := by
              intro x hx
              simp only [List.mem_append, List.mem_replicate, List.mem_cons, List.not_mem_nil, or_false] at hx
              omega
            have byt2 : ∀ x ∈ List.replicate N (255 : Int) ++ ([s1 % 256, s1 / 256, s2 % 256, s2 / 256, m1 % 256, m1 / 256, m2 % 256, m2 / 256] ++ []), 0 ≤ x ∧ x < 256 := by
              intro x hx
              simp only [List.mem_append, List.mem_replicate, List.mem_cons, List.not_mem_nil, or_false] at hx
              omega
            have cg := get8 (bs := byteArr (List.replicate N (255 : Int) ++ ([s1 % 256, s1 / 256, m1 % 256, m1 / 256] ++ []))) (p := N) (by omega) (by rw [byteArr_size]; simp; try omega) (by rw [byteArr_size]; simp; omega) (cutB_at N 255 [s1 % 256, s1 / 256, m1 % 256, m1 / 256] [] _ (by simp)) ⟨by omega, by omega⟩ ⟨by omega, by omega⟩ ⟨by omega, by omega⟩ ⟨by omega, by omega⟩ ca1 plain4
            have cr := range8 (bs := byteArr (List.replicate N (255 : Int) ++ ([s1 % 256, s1 / 256, s2 % 256, s2 / 256, m1 % 256, m1 / 256, m2 % 256, m2 / 256] ++ []))) (p := N) (by omega) (by rw [byteArr_size]; simp; try omega) (by rw [byteArr_size]; simp; omega) (cutB_at N 255 [s1 % 256, s1 / 256, s2 % 256, s2 / 256, m1 % 256, m1 / 256, m2 % 256, m2 / 256] [] _ (by simp)) ⟨by omega, by omega⟩ ⟨by omega, by omega⟩ ⟨by omega, by omega⟩ ⟨by omega, by omega⟩ ⟨by omega, by omega⟩ ⟨by omega, by omega⟩ ⟨by omega, by omega⟩ ⟨by omega, by omega⟩ ca1 ca2 plain4 plain4
            refine Ex.cons (Ex1.guard ?ga1y ?ga2y)
            case ga1y =>
              refine EvT.cmp (Ev.callG ?gb1y ?gb2y (.cons (EvA.of (Ev.callG ?gb3y cle_t (.cons (EvA.of (Ev.name (by rfl))) .nil) (CallJ.bytes byt (by simp; omega)) (List.cons_ne_nil _ _))) (.cons (EvA.of (Ev.name (by rfl))) (.cons (EvA.of (Ev.name (by rfl))) (.cons (EvA.of (Ev.name (by rfl))) (.cons (EvA.of (Ev.sub (Ev.name (d := .tup [.int b0, .int b1]) (by rfl)) Ev.int (SubJ.tup (by decide) (by rfl)))) (.cons (EvA.of (Ev.sub (Ev.name (d := .tup [.int b0, .int b1]) (by rfl)) Ev.int (SubJ.tup (by decide) (by rfl)))) .nil)))))) (cg.le (Nat.le_of_ble_eq_true rfl)) (List.cons_ne_nil _ _)) (Ev.sub (Ev.name (by rfl)) Ev.int (SubJ.lst (d := T4 (dueV t 65536 b0 low f0) (dueV t 256 b1 left f1) f0 f1) (by decide) (by rfl))) (CmpJ.dneR (d := T4 (dueV t 65536 b0 low f0) (dueV t 256 b1 left f1) f0 f1))
              case gb1y => walk_at "mv_glob"
              case gb2y => walk_at "mv_callee"
              case gb3y => walk_at "mv_glob"
            refine Ex.cons (Ex1.guard ?gc1y ?gc2y)
            case gc1y =>
              refine EvT.cmp (Ev.callG ?gd1y ?gd2y (.cons (EvA.of (Ev.callG ?gd3y cle_t (.cons (EvA.of (Ev.name (by rfl))) .nil) (CallJ.bytes byt2 (by simp; omega)) (List.cons_ne_nil _ _))) (.cons (EvA.of (Ev.name (by rfl))) (.cons (EvA.of (Ev.name (by rfl))) (.cons (EvA.of (Ev.name (by rfl))) (.cons (EvA.of (Ev.sub (Ev.name (d := .tup [.int b0, .int b1]) (by rfl)) Ev.int (SubJ.tup (by decide) (by rfl)))) (.cons (EvA.of (Ev.sub (Ev.name (d := .tup [.int b0, .int b1]) (by rfl)) Ev.int (SubJ.tup (by decide) (by rfl)))) .nil)))))) (cr.le (Nat.le_of_ble_eq_true rfl)) (List.cons_ne_nil _ _)) (Ev.tuple (.cons (Ev.sub (Ev.name (by rfl)) Ev.int (SubJ.lst (d := T4 (dueV t 65536 b0 low f0) (dueV t 256 b1 left f1) f0 f1) (by decide) (by rfl))) (.cons (Ev.sub (Ev.name (by rfl)) Ev.int (SubJ.lst (d := T4 (dueV t 65536 b0 high f2) (dueV t 256 b1 right f3) f2 f3) (by decide) (by rfl))) .nil)) (Nat.le_of_ble_eq_true rfl)) (CmpJ.dneR (d := .tuple [T4 (dueV t 65536 b0 low f0) (dueV t 256 b1 left f1) f0 f1, T4 (dueV t 65536 b0 high f2) (dueV t 256 b1 right f3) f2 f3]))
              case gd1y => walk_at "mv_glob"
              case gd2y => walk_at "mv_callee"
              case gd3y => walk_at "mv_glob"
            refine Ex.cons ?_
            refine' Ex1.assign (d := .bool true) ?wh1y (.inl rfl) ?wh2y
            case wh1y => exact Ev.orB (b1 := true) (b2 := true) (Ev.eq (Ev.cmp (Ev.name (by rfl)) Ev.int CmpJ.ieq) (congrArg D.bool (show _ = true by decide))) (fun h => by cases h)
            have hwh : ∀ v l : Int, (65536 : Int) = 16384 → true = true → l = 1 → 0 ≤ b0 + v ∧ b0 + v < 65536 := fun v l h => absurd h (by decide)
            have G1 := good_of (t := t) (wh := true) (.inr rfl) q0 q1 lo0 lo1 le0 le1 b00 b01 b10 b11 (hwh _ f0)
            have G2 := good_of (t := t) (wh := true) (.inr rfl) q2 q3 hi0 hi1 ri0 ri1 b00 b01 b10 b11 (hwh _ f2)
            have cn := names_call b0 b1 _ _ re0 _ _ _ _ _ _ _ _ _ _ _ _ G1 G2
            refine Ex.cons (Ex1.guard ?ge1y ?ge2y)
            case ge1y =>
              refine EvT.eq (EvT.not (EvT.of_value (Ev.callG ?gf1y ?gf2y (.cons (EvA.of (Ev.name (by rfl))) (.cons (EvA.of (Ev.name (by rfl))) (.cons (EvA.of (Ev.name (by rfl))) (.cons (EvA.of (Ev.name (by rfl))) (.cons (EvA.of (Ev.name (by rfl))) .nil))))) (cn.le (Nat.le_of_ble_eq_true rfl)) (List.cons_ne_nil _ _)) TruJ.bool)) rfl
              case gf1y => walk_at "mv_glob"
              case gf2y => walk_at "mv_callee"
            refine Ex.nil ⟨?_, rfl⟩
            exact .skip (.skip (.skip (.skip (.skip (.skip (.skip (.skip (.skip Sub.refl))))))))
      case l2 =>
        rintro ρ μ ⟨hS2, rfl⟩
        refine Ex.weaken ?_ hS2
        clear hS2 hS
        obtain ⟨num, hnum, n0, n1⟩ : ∃ num, g % 1000000000000 = num ∧ 0 ≤ num ∧ num < 10 ^ 12 := ⟨_, rfl, by omega, by omega⟩
        obtain ⟨col, hcol, c0, c1⟩ : ∃ col, (g + X) % 702 = col ∧ 0 ≤ col ∧ col < 702 := ⟨_, rfl, by omega, by omega⟩
        obtain ⟨row, hrow, r0, r1⟩ : ∃ row, g / 702 % 100000000 = row ∧ 0 ≤ row ∧ row < 10 ^ 8 := ⟨_, rfl, by omega, by omega⟩
        obtain ⟨tall, htall, t0, t1⟩ : ∃ tall, g % 3 = tall ∧ 0 ≤ tall ∧ tall < 3 := ⟨_, rfl, by omega, by omega⟩
        obtain ⟨broad, hbroad, br0, br1⟩ : ∃ broad, g / 3 % 3 = broad ∧ 0 ≤ broad ∧ broad < 3 := ⟨_, rfl, by omega, by omega⟩
        obtain ⟨side, hside, s0, s1⟩ : ∃ side, (if (699 : Int) < col then 699 else col) = side ∧ 0 ≤ side ∧ side < 700 := ⟨_, rfl, by split <;> omega, by split <;> omega⟩
        refine Ex.cons ?_
        refine' Ex1.assign (d := .int num) ?ta1 (.inl rfl) ?ta2
        case ta1 => exact Ev.eq (Ev.bin (Ev.name (by rfl)) Ev.int (BinJ.emod (by decide))) (congrArg D.int hnum)
        have lL : Ln (lets num.toNat) 10 := Ln.lets (by omega)
        have cL : CallJ 1 (.ref 186) [.str (lets num.toNat), .int 0] (.tup [.int num, .int (lets num.toNat).length]) := by
          have h := letters_callF (lets num.toNat) 0 (Ln.k lL (by decide)) (by decide)
          obtain ⟨h1, h2⟩ := letters_of_lets num.toNat
          rw [h1, h2, Int.toNat_of_nonneg n0] at h
          exact h
        have cC := colname_call num n0 n1
        refine Ex.cons (Ex1.guard ?tb1 ?tb2)
        case tb1 =>
          refine EvT.cmp (Ev.callG ?tc1 ?tc2 (.cons (EvA.of (Ev.callG ?tc3 ?tc4 (.cons (EvA.of (Ev.name (by rfl))) .nil) (cC.le (Nat.le_of_ble_eq_true rfl)) (List.cons_ne_nil _ _))) (.cons (EvA.of Ev.int) .nil)) (cL.le (Nat.le_of_ble_eq_true rfl)) (List.cons_ne_nil _ _))
            (Ev.tuple (.cons (Ev.name (by rfl)) (.cons (Ev.callG ?tc5 cle_b (.cons (EvA.of (Ev.callG ?tc6 ?tc7 (.cons (EvA.of (Ev.name (by rfl))) .nil) (cC.le (Nat.le_of_ble_eq_true rfl)) (List.cons_ne_nil _ _))) .nil) (CallJ.len (Ln.le2 lL (by decide))) (List.cons_ne_nil _ _)) .nil)) (Nat.le_of_ble_eq_true rfl)) (CmpJ.dneR (d := .tuple [.int num, .int (lets num.toNat).length]))
          case tc1 => walk_at "mv_glob"
          case tc2 => walk_at "mv_callee"
          case tc3 => walk_at "mv_glob"
          case tc4 => walk_at "mv_callee"
          case tc5 => walk_at "mv_glob"
          case tc6 => walk_at "mv_glob"
          case tc7 => walk_at "mv_callee"
        refine Ex.cons ?_
        refine' Ex1.assign (d := .int col) ?td1 (.inl rfl) ?td2
        case td1 => exact Ev.eq (Ev.bin (Ev.bin (Ev.name (by rfl)) (Ev.name (by rfl)) BinJ.add) Ev.int (BinJ.emod (by decide))) (congrArg D.int hcol)
        refine Ex.cons ?_
        refine' Ex1.assign (d := .int row) ?td3 (.inl rfl) ?td4
        case td3 => exact Ev.eq (Ev.bin (Ev.bin (Ev.name (by rfl)) Ev.int (BinJ.ediv (by decide) (by decide))) Ev.int (BinJ.emod (by decide))) (congrArg D.int hrow)
        have lc : Ln (cn col ++ dec (row + 1)) 20 := Ln.up (Ln.app Ln.cn (Ln.dec (by omega) (by omega))) (by decide)
        have la : Ln (nmabs row col false) 40 := Ln.nmabs (by omega) (by omega) (by omega) (by omega)
        have laT : Ln (nmabs row col true) 40 := Ln.nmabs (by omega) (by omega) (by omega) (by omega)
        have k1 := cellname_call row col r0 (by omega) c0 c1
        have k2 := nmabs_call2 row col r0 (by omega) c0 c1
        have k3 := nmabs_call row col (.int 1) true TruJ.int r0 (by omega) c0 c1
        have p1 : CallJ 2 (.ref 193) [.str (cn col ++ dec (row + 1))] (.py (T4 row col 1 1)) := (plain_call _ (Ln.k lc (by decide))).eq (by rw [plain_cell r0 c0 c1])
        have p2 : CallJ 2 (.ref 193) [.str (nmabs row col false)] (.py (T4 row col 0 0)) := (plain_call _ (Ln.k la (by decide))).eq (by rw [plain_absF r0 c0 c1])
        have p3 : CallJ 3 (.ref 207) [.str (nmabs row col true), .tup [.int b0, .int b1], .int RE] (.py (T4 row col 0 0)) := (round_call _ b0 b1 RE (Ln.k laT (by decide)) re0).eq (by rw [round_of (L_absT row col) (fun _ => r0) (fun _ => c0)]; rfl)
        refine Ex.cons (Ex1.guard ?te1 ?te2)
        case te1 =>
          refine EvT.eq (EvT.or2 (b := false) (c := false) (EvT.cmp (Ev.callG ?tf1 ?tf2 (.cons (EvA.of (Ev.callG ?tf3 ?tf4 (.cons (EvA.of (Ev.name (by rfl))) (.cons (EvA.of (Ev.name (by rfl))) .nil)) (k1.le (Nat.le_of_ble_eq_true rfl)) (List.cons_ne_nil _ _))) .nil) (p1.le (Nat.le_of_ble_eq_true rfl)) (List.cons_ne_nil _ _)) (Ev.tuple (.cons (Ev.name (by rfl)) (.cons (Ev.name (by rfl)) (.cons Ev.int (.cons Ev.int .nil)))) (Nat.le_of_ble_eq_true rfl)) (CmpJ.dneR (d := T4 row col 1 1)))
            (EvT.cmp (Ev.callG ?tf5 ?tf6 (.cons (EvA.of (Ev.callG ?tf7 ?tf8 (.cons (EvA.of (Ev.name (by rfl))) (.cons (EvA.of (Ev.name (by rfl))) .nil)) (k2.le (Nat.le_of_ble_eq_true rfl)) (List.cons_ne_nil _ _))) .nil) (p2.le (Nat.le_of_ble_eq_true rfl)) (List.cons_ne_nil _ _)) (Ev.tuple (.cons (Ev.name (by rfl)) (.cons (Ev.name (by rfl)) (.cons Ev.int (.cons Ev.int .nil)))) (Nat.le_of_ble_eq_true rfl)) (CmpJ.dneR (d := T4 row col 0 0)))) rfl
          case tf1 => walk_at "mv_glob"
          case tf2 => walk_at "mv_callee"
          case tf3 => walk_at "mv_glob"
          case tf4 => walk_at "mv_callee"
          case tf5 => walk_at "mv_glob"
          case tf6 => walk_at "mv_callee"
          case tf7 => walk_at "mv_glob"
          case tf8 => walk_at "mv_callee"
        refine Ex.cons (Ex1.guard ?tg1 ?tg2)
        case tg1 =>
          refine EvT.cmp (Ev.callG ?th1 ?th2 (.cons (EvA.of (Ev.callG ?th3 ?th4 (.cons (EvA.of (Ev.name (by rfl))) (.cons (EvA.of (Ev.name (by rfl))) (.cons (EvA.of Ev.int) .nil))) (k3.le (Nat.le_of_ble_eq_true rfl)) (List.cons_ne_nil _ _))) (.cons (EvA.of (Ev.name (by rfl))) (.cons (EvA.of (Ev.name (by rfl))) .nil))) (p3.le (Nat.le_of_ble_eq_true rfl)) (List.cons_ne_nil _ _)) (Ev.tuple (.cons (Ev.name (by rfl)) (.cons (Ev.name (by rfl)) (.cons Ev.int (.cons Ev.int .nil)))) (Nat.le_of_ble_eq_true rfl)) (CmpJ.dneR (d := T4 row col 0 0))
          case th1 => walk_at "mv_glob"
          case th2 => walk_at "mv_callee"
          case th3 => walk_at "mv_glob"
          case th4 => walk_at "mv_callee"
        refine Ex.cons ?_
        refine' Ex1.assign (d := .int tall) ?ti1 (.inl rfl) ?ti2
        case ti1 => exact Ev.eq (Ev.bin (Ev.name (by rfl)) Ev.int (BinJ.emod (by decide))) (congrArg D.int htall)
        refine Ex.cons ?_
        refine' Ex1.assign (d := .int broad) ?ti3 (.inl rfl) ?ti4
        case ti3 => exact Ev.eq (Ev.bin (Ev.bin (Ev.name (by rfl)) Ev.int (BinJ.ediv (by decide) (by decide))) Ev.int (BinJ.emod (by decide))) (congrArg D.int hbroad)
        refine Ex.cons ?_
        refine' Ex1.assign (d := .int side) ?ti5 (.inl rfl) ?ti6
        case ti5 =>
          refine Ev.eq (Ev.callG ?tj1 cle_b (.cons (EvA.of (Ev.name (by rfl))) (.cons (EvA.of Ev.int) .nil)) CallJ.min (List.cons_ne_nil _ _)) (congrArg D.int hside)
          case tj1 => walk_at "mv_glob"
        have kr := rng2_call row side tall broad r0 r1 s0 s1 t0 t1 br0 br1 (by omega)
        refine Ex.cons ?_
        refine' Ex1.assign (d := .str (rng2 row side tall broad)) ?tk1 (.inl rfl) ?tk2
        case tk1 =>
          refine' Ev.callG ?tl1 ?tl2 (.cons (EvA.of (Ev.name (by rfl))) (.cons (EvA.of (Ev.bin (Ev.bin (Ev.name (by rfl)) Ev.int BinJ.add) (Ev.name (by rfl)) BinJ.add)) (.cons (EvA.of (Ev.name (by rfl))) (.cons (EvA.of (Ev.bin (Ev.bin (Ev.name (by rfl)) Ev.int BinJ.add) (Ev.name (by rfl)) BinJ.add)) .nil)))) (kr.le (Nat.le_of_ble_eq_true rfl)) (List.cons_ne_nil _ _)
          case tl1 => walk_at "mv_glob"
          case tl2 => walk_at "mv_callee"
        have ks := nmabs_call2 row side r0 (by omega) s0 (by omega)
        have ls : Ln (nmabs row side false) 40 := Ln.nmabs (by omega) (by omega) (by omega) (by omega)
        have kt := nmabs_call2 (row + tall) (side + broad) (by omega) (by omega) (by omega) (by omega)
        have lt : Ln (nmabs (row + tall) (side + broad) false) 40 := Ln.nmabs (by omega) (by omega) (by omega) (by omega)
        refine Ex.cons (Ex1.guard ?tm1 ?tm2)
        case tm1 =>
          by_cases hz : tall + broad = 0
          · refine EvT.cmp (Ev.name (by rfl)) (Ev.eq (Ev.bin (Ev.callG ?tn1 ?tn2 (.cons (EvA.of (Ev.name (by rfl))) (.cons (EvA.of (Ev.name (by rfl))) .nil)) (ks.le (Nat.le_of_ble_eq_true rfl)) (List.cons_ne_nil _ _)) (Ev.iteT (EvT.eq (EvT.cmp (Ev.bin (Ev.name (by rfl)) (Ev.name (by rfl)) BinJ.add) Ev.int CmpJ.ieq) (decide_eq_true hz)) Ev.str) (BinJ.addL ls Ln.lit (by decide))) (congrArg D.str (show _ = rng2 row side tall broad from ?tn3))) sne_self
            case tn1 => walk_at "mv_glob"
            case tn2 => walk_at "mv_callee"
            case tn3 =>
              unfold rng2
              rw [if_pos (by omega)]
              show Str.append _ _ = _
              have e0 : (Str.ofString "").cps = #[] := by decide +kernel
              unfold Str.append
              rw [e0]; simp
          · refine EvT.cmp (Ev.name (by rfl)) (Ev.eq (Ev.bin (Ev.callG ?to1 ?to2 (.cons (EvA.of (Ev.name (by rfl))) (.cons (EvA.of (Ev.name (by rfl))) .nil)) (ks.le (Nat.le_of_ble_eq_true rfl)) (List.cons_ne_nil _ _)) (Ev.iteF (EvT.eq (EvT.cmp (Ev.bin (Ev.name (by rfl)) (Ev.name (by rfl)) BinJ.add) Ev.int CmpJ.ieq) (decide_eq_false hz)) (Ev.bin Ev.str (Ev.callG ?to4 ?to5 (.cons (EvA.of (Ev.bin (Ev.name (by rfl)) (Ev.name (by rfl)) BinJ.add)) (.cons (EvA.of (Ev.bin (Ev.name (by rfl)) (Ev.name (by rfl)) BinJ.add)) .nil)) (kt.le (Nat.le_of_ble_eq_true rfl)) (List.cons_ne_nil _ _)) (BinJ.addL Ln.lit lt (by decide)))) (BinJ.addL ls (Ln.app Ln.lit lt) (by decide))) (congrArg D.str (show _ = rng2 row side tall broad from ?to3))) sne_self
            case to1 => walk_at "mv_glob"
            case to2 => walk_at "mv_callee"
            case to4 => walk_at "mv_glob"
            case to5 => walk_at "mv_callee"
            case to3 =>
              unfold rng2
              rw [if_neg (by omega), app_assoc]
        exact Ex.nil ⟨.cons rfl .nil, rfl⟩
end

/-! ### NW -/

theorem three_lookup {a b c : Str} {x y z d : Addr} {n : Str} (h : [(a, x), (b, y), (c, z)].lookup n = some d) : (n = a ∧ d = x) ∨ (n = b ∧ d = y) ∨ (n = c ∧ d = z) := by
  rw [List.lookup_cons] at h
  by_cases q : n = a
  · subst q; rw [beq_self_eq_true] at h; cases h; exact .inl ⟨rfl, rfl⟩
  · rw [show (n == a) = false from beq_eq_false_iff_ne.mpr q] at h; exact .inr (lookup_two h)

theorem law_entry {sc : Scope} {b : List Stmt}
    (hEx : ∀ (name : Str) (a : Addr) (cdv : Value) (w : World) (mg mb : Str → Option Value) (A : Around) (h₀ : Heap) (L : Addr) (ns : List Int), h₀.objs.size ≤ L → ns.length ≤ 1000 →
      Ex { w, mg, mb, A, h₀, env := envOfC name sc L a cdv, n := 5, F := [] } [("script", .lst (ns.map PyData.int))] [] b (fun _ _ => False) (fun d => d = .bool true))
    (hk : sc.kind = .function) (hcells : ∀ L : Addr, cellsFrom (L + 1) sc.names [] = [(Str.ofString "base", L + 1 + 1 + 1), (Str.ofString "reach", L + 1 + 1), (Str.ofString "given", L + 1)]) (hloc : sc.names.lookup (Str.ofString "script") = some .local)
    {name : Str} {a l : Addr} {cdv : Value} {w : World} {mg mb : Str → Option Value} {h h₁ : Heap} {p : Program} {loose : List Str} {mean : ExcName → Option Value} {m : Str → Option Value} {o1 o2 o3 : Obj} {c1 c2 c3 : Option Value} {vs : List Value} {ns : List Int} {s : Shared} {Q : Flow → Shared → Prop} {E : Value → Shared → Prop}
    (KX : (hd.heap_39 w.params).In h) (T : Top p loose mean mg mb h) (FR : Fr h h.objs.size h₁ m) (hm : m (Str.ofString "script") = some (.ref l))
    (N : News h h.objs.size h₁ [(h.objs.size + 1 + 1 + 1, o3), (h.objs.size + 1 + 1, o2), (h.objs.size + 1, o1)]) (d3 : o3.data = .cell c3) (d2 : o2.data = .cell c2) (d1 : o1.data = .cell c1) (e3 : c3 = none) (e2 : c2 = none) (e1 : c1 = none)
    (hL : h.IsList l vs.toArray) (hI : IntsAre vs ns) (hlen : ns.length ≤ 1000) (hs : s.heap = h₁)
    (hQ : ∀ s', h.StaysIn s'.heap → (∃ hp tk, s' = { s with heap := hp, toks := tk }) → Q (.ret (.bool true)) s') :
    wpAny (model PG w) (callerA.deeper (envOfC name sc h.objs.size a cdv)) (execs b (envOfC name sc h.objs.size a cdv)) Q E s := by
  subst e1 e2 e3
  obtain ⟨o, ho, hc, nn, hd⟩ := id hL
  have lt : @LT.lt Nat _ l h.objs.size := Heap.lt_size ho
  have cl : ∀ L : Addr, (envOfC name sc L a cdv).cells = [(Str.ofString "base", L + 1 + 1 + 1), (Str.ofString "reach", L + 1 + 1), (Str.ofString "given", L + 1)] := hcells
  have hS : St { w := w, mg := mg, mb := mb, A := callerA.deeper (envOfC name sc h.objs.size a cdv), h₀ := h, env := envOfC name sc h.objs.size a cdv, n := 5, F := [] } [("script", .lst (ns.map PyData.int))] [] s := by
    refine ⟨m, fun _ => none, ⟨hk, rfl, rfl, ⟨KX, T.g, T.b, T.nolimit, T.nodigits, T.builtins⟩, by show callerA.depth + 1 + 5 < recursionLimit; decide, by show callerA.units + 3 + 4 * 5 + 80 < cLine; decide, rfl, fun x y c hx hy => ?_⟩, hs ▸ FR, fun x c hx => ?_, fun x d hx => ?_, (fun _ _ hm => nomatch hm), .nil, fun _ hm => nomatch hm⟩
    · rw [cl] at hx hy
      rcases three_lookup hx with ⟨rfl, rfl⟩ | ⟨rfl, rfl⟩ | ⟨rfl, rfl⟩ <;> rcases three_lookup hy with ⟨rfl, q⟩ | ⟨rfl, q⟩ | ⟨rfl, q⟩ <;> first | rfl | (exfalso; have q : @Eq Nat _ _ := q; omega)
    · rw [cl] at hx
      rw [hs]
      rcases three_lookup hx with ⟨rfl, rfl⟩ | ⟨rfl, rfl⟩ | ⟨rfl, rfl⟩
      · exact ⟨o3, N.get (.head _), d3⟩
      · exact ⟨o2, N.get (.tail _ (.head _)), d2⟩
      · exact ⟨o1, N.get (.tail _ (.tail _ (.head _))), d1⟩
    · rw [List.lookup_cons] at hx
      by_cases q : x = "script"
      · subst q
        rw [beq_self_eq_true] at hx
        cases hx
        refine ⟨.ref l, [l], ?_, ?_, fun a ha hz => ?_⟩
        · unfold Fc.var
          have : Env.kindOf (envOfC name sc h.objs.size a cdv) (Str.ofString "script") = some .local := hloc
          rw [this]; exact hm
        · rw [hs]
          exact RdV.list (FR.keep _ _ ho) hc hd (rdvs_ints (by simpa using hI))
        · rw [List.mem_singleton.mp ha] at hz
          rcases List.mem_cons.mp hz with q | q
          · exact Nat.lt_irrefl _ (q ▸ lt)
          · cases q
      · rw [show (x == "script") = false from beq_eq_false_iff_ne.mpr q] at hx; cases hx
  have hX := hEx name a cdv w mg mb (callerA.deeper (envOfC name sc h.objs.size a cdv)) h h.objs.size ns (Nat.le_refl _) hlen
  refine hX.run s Q E hS (fun _ _ _ x => x.elim) fun v d as s' hR r n ok => ?_
  subst hR
  cases r
  exact hQ s' ok.1 ok.2

theorem good_true {c : ClaimW} {cl : Str → Option Addr} {mean : ExcName → Option Value} {args : List WData} {s₁ s' : Shared} (keep : s₁.heap.StaysIn s'.heap) (hg : s'.gens = #[]) (hn : ∀ cls, c.raises args cls = false) (hp : c.post args (.bool true) args = true) (hos : s'.os = s₁.os) :
    GoodW c cl mean args s₁ (.ok (.ret (.bool true))) s' := ⟨.inl ⟨_, _, [], rfl, hn, .bool true, hp, unshared_nil⟩, keep, hos, hg⟩
end Mine
set_option maxRecDepth 100000 in
set_option maxHeartbeats 8000000 in
theorem PySem.Challenge.cw_ez0430_01_holds : PySem.Challenge.rw_ez0430_01.Holds := by
  exact Mine.hd (by
    k_go0
    all_goals try k_fold
    obtain ⟨sc, b, heq, hEx⟩ := Mine.law_ex
    obtain ⟨h1, h2⟩ := heq (World.params ‹World›)
    subst h1 h2
    refine Mine.law_entry hEx rfl (fun _ => rfl) rfl (by assumption) (by assumption) (by assumption) rfl (by assumption) (by assumption) (by assumption) (by assumption) rfl rfl rfl (by assumption) (by assumption) (by omega) rfl ?_
    intro s' k e
    obtain ⟨hp, tk, rfl⟩ := e
    refine Mine.good_true k (by assumption) (fun _ => rfl) ?_ rfl
    wrow_post)
