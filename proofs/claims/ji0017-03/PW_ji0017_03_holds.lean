import PyProof.Rows.All
import Wide.All
import OpenK.AllK
import Wide.FinOn
import Lean
import PySem.Challenge.RW_ji0017_03
open PySem PySem.W PyProof.Rows PySem.Calls
set_option Elab.async false
set_option maxRecDepth 100000
set_option maxHeartbeats 8000000
set_option linter.all false
section
local macro_rules | `(tactic| o_head $h) => `(tactic| assumption)
theorem Mine.k0 (x : PySem.Challenge.rw_ji0017_03.row.Holds) : PySem.Challenge.rw_ji0017_03.row.Holds := by k_head
end
namespace Mine
noncomputable section
inductive V where
  | none
  | bool (b : Bool)
  | int (i : Int)
  | bytes (b : List UInt8)
  | list (l : List V)
  | tup (l : List V)
  | name (l : List (List UInt8))
  | scr (l : List Int)
  deriving Inhabited
abbrev lobj (vs : List Value) (n : Nat) : Obj := { cls := .type "list", data := .seq vs.toArray n }
abbrev tobj (vs : List Value) (n : Nat) : Obj := { cls := .type "tuple", data := .seq vs.toArray n }
def AtX (h : Heap) (X : Addr → Prop) (a : Addr) (o : Obj) : Prop := h.get? a = some o ∧ ¬ X a
mutual
def Rep (C : Addr) (h : Heap) (X : Addr → Prop) : V → Value → Prop
  | .none, v => v = .none
  | .bool b, v => v = .bool b
  | .int i, v => ∃ t, v = .int i t
  | .bytes b, v => (∃ t, v = .bytes b.toArray t) ∧ b.length ≤ sizeLine
  | .list ds, v => ∃ a vs n, v = .ref a ∧ AtX h X a (lobj vs n) ∧ RepL C h X ds vs ∧ vs.length ≤ sizeLine
  | .tup ds, v => ∃ a vs n, v = .ref a ∧ AtX h X a (tobj vs n) ∧ RepL C h X ds vs ∧ vs.length ≤ sizeLine
  | .name ls, v => ∃ x dx hs tk t vs n m, v = .ref x ∧ AtX h X x (instObj C dx) ∧ AtX h X dx (dictOf [⟨hs, .str "labels" tk, .ref t⟩] m) ∧
      AtX h X t (tobj vs n) ∧ vs.length ≤ sizeLine ∧
      (∀ b ∈ ls, b.length ≤ sizeLine) ∧ ∃ tks : List Tok, tks.length = ls.length ∧ vs = (ls.zip tks).map fun p => .bytes p.1.toArray p.2
  | .scr ns, v => ∃ a o vs n, v = .ref a ∧ AtX h X a o ∧ o.cls = .type "list" ∧ o.data = .seq vs.toArray n ∧ IntsAre vs ns ∧ vs.length ≤ sizeLine
def RepL (C : Addr) (h : Heap) (X : Addr → Prop) : List V → List Value → Prop
  | [], vs => vs = []
  | d :: ds, vs => ∃ v r, vs = v :: r ∧ Rep C h X d v ∧ RepL C h X ds r
end
def Kf (fs : List Addr) (h h' : Heap) : Prop :=
  ∀ b o, h.get? b = some o → (b ∉ fs → h'.get? b = some o) ∧ (∃ sl, h'.get? b = some { o with slots := sl })
theorem Kf.refl (fs : List Addr) (h : Heap) : Kf fs h h := fun _ o e => ⟨fun _ => e, o.slots, e⟩
theorem Kf.trans {fs : List Addr} {h₁ h₂ h₃ : Heap} (x : Kf fs h₁ h₂) (y : Kf fs h₂ h₃) : Kf fs h₁ h₃ := fun b o e => by
  obtain ⟨p, sl, q⟩ := x b o e
  refine ⟨fun n => (y b o (p n)).1 n, ?_⟩
  obtain ⟨_, sl', q'⟩ := y b _ q
  exact ⟨sl', q'⟩
theorem Kf.of_keeps {fs : List Addr} {h h' : Heap} (k : ∀ b o, h.get? b = some o → h'.get? b = some o) : Kf fs h h' := fun b o e => ⟨fun _ => k b o e, o.slots, k b o e⟩
theorem Kf.mono {fs fs' : List Addr} {h h' : Heap} (x : Kf fs h h') (hs : ∀ b, b ∈ fs → b ∈ fs') : Kf fs' h h' := fun b o e => ⟨fun n => (x b o e).1 fun q => n (hs b q), (x b o e).2⟩
def KX (X : Addr → Prop) (h h' : Heap) : Prop := ∀ b o, h.get? b = some o → ¬ X b → h'.get? b = some o
theorem Kf.kx {fs : List Addr} {X : Addr → Prop} {h h' : Heap} (x : Kf fs h h') (hs : ∀ b, b ∈ fs → X b) : KX X h h' := fun b o e n => (x b o e).1 fun q => n (hs b q)
theorem AtX.mono {h h' : Heap} {X X' : Addr → Prop} {a : Addr} {o : Obj} (x : AtX h X a o) (k : KX X h h') (hX : ∀ b, X' b → X b ∨ h.get? b = none) : AtX h' X' a o :=
  ⟨k a o x.1 x.2, fun m => (hX a m).elim x.2 fun e => by rw [x.1] at e; cases e⟩
mutual
theorem Rep.mono {C : Addr} {h h' : Heap} {X X' : Addr → Prop} (k : KX X h h') (hX : ∀ b, X' b → X b ∨ h.get? b = none) : ∀ {d : V} {v : Value}, Rep C h X d v → Rep C h' X' d v
  | .none, _, r => by simpa [Rep] using r
  | .bool _, _, r => by simpa [Rep] using r
  | .int _, _, r => by simpa [Rep] using r
  | .bytes _, _, r => by simpa [Rep] using r
  | .list ds, _, r => by
    simp only [Rep] at r ⊢
    obtain ⟨a, vs, n, e1, e2, e5, e6⟩ := r
    exact ⟨a, vs, n, e1, e2.mono k hX, RepL.mono k hX e5, e6⟩
  | .tup ds, _, r => by
    simp only [Rep] at r ⊢
    obtain ⟨a, vs, n, e1, e2, e5, e6⟩ := r
    exact ⟨a, vs, n, e1, e2.mono k hX, RepL.mono k hX e5, e6⟩
  | .name ls, _, r => by
    simp only [Rep] at r ⊢
    obtain ⟨x, dx, hs, tk, t, vs, n, m, e1, e2, e5, e7, e8⟩ := r
    exact ⟨x, dx, hs, tk, t, vs, n, m, e1, e2.mono k hX, e5.mono k hX, e7.mono k hX, e8⟩
  | .scr ns, _, r => by
    simp only [Rep] at r ⊢
    obtain ⟨a, o, vs, n, e1, e2, e3⟩ := r
    exact ⟨a, o, vs, n, e1, e2.mono k hX, e3⟩
theorem RepL.mono {C : Addr} {h h' : Heap} {X X' : Addr → Prop} (k : KX X h h') (hX : ∀ b, X' b → X b ∨ h.get? b = none) : ∀ {ds : List V} {vs : List Value}, RepL C h X ds vs → RepL C h' X' ds vs
  | [], _, r => by simpa [RepL] using r
  | d :: ds, _, r => by
    simp only [RepL] at r ⊢
    obtain ⟨v, t, e, r1, r2⟩ := r
    exact ⟨v, t, e, Rep.mono k hX r1, RepL.mono k hX r2⟩
end
theorem KX.refl (X : Addr → Prop) (h : Heap) : KX X h h := fun _ _ e _ => e
theorem Rep.weak {C : Addr} {h : Heap} {X X' : Addr → Prop} {d : V} {v : Value} (r : Rep C h X d v) (hX : ∀ b, X' b → X b) : Rep C h X' d v := r.mono (KX.refl _ _) fun b m => .inl (hX b m)
theorem RepL.length {C : Addr} {h : Heap} {X : Addr → Prop} : ∀ {ds : List V} {vs : List Value}, RepL C h X ds vs → vs.length = ds.length
  | [], _, r => by simp only [RepL] at r; rw [r]; rfl
  | d :: ds, _, r => by
    simp only [RepL] at r
    obtain ⟨v, t, rfl, _, r2⟩ := r
    simp [RepL.length r2]
theorem RepL.get {C : Addr} {h : Heap} {X : Addr → Prop} : ∀ {ds : List V} {vs : List Value} {i : Nat} {d : V}, RepL C h X ds vs → ds[i]? = some d → ∃ v, vs[i]? = some v ∧ Rep C h X d v
  | [], _, _, _, _, e => by simp at e
  | d :: ds, _, i, d', r, e => by
    simp only [RepL] at r
    obtain ⟨v, t, rfl, r1, r2⟩ := r
    cases i with
    | zero => simp at e; subst e; exact ⟨v, rfl, r1⟩
    | succ i => simp at e; obtain ⟨v', e', r'⟩ := RepL.get r2 e; exact ⟨v', by simpa using e', r'⟩
theorem RepL.append {C : Addr} {h : Heap} {X : Addr → Prop} : ∀ {ds es : List V} {vs us : List Value}, RepL C h X ds vs → RepL C h X es us → RepL C h X (ds ++ es) (vs ++ us)
  | [], _, _, _, r, q => by simp only [RepL] at r; subst r; simpa using q
  | d :: ds, es, _, us, r, q => by
    simp only [RepL] at r
    obtain ⟨v, t, rfl, r1, r2⟩ := r
    simp only [List.cons_append, RepL]
    exact ⟨v, t ++ us, rfl, r1, RepL.append r2 q⟩
theorem RepL.take {C : Addr} {h : Heap} {X : Addr → Prop} : ∀ {ds : List V} {vs : List Value} (k : Nat), RepL C h X ds vs → RepL C h X (ds.take k) (vs.take k)
  | [], _, k, r => by simp only [RepL] at r; subst r; simp [RepL]
  | d :: ds, _, 0, r => by simp [RepL]
  | d :: ds, _, k + 1, r => by
    simp only [RepL] at r
    obtain ⟨v, t, rfl, r1, r2⟩ := r
    simp only [List.take_succ_cons, RepL]
    exact ⟨v, _, rfl, r1, RepL.take k r2⟩
theorem RepL.drop {C : Addr} {h : Heap} {X : Addr → Prop} : ∀ {ds : List V} {vs : List Value} (k : Nat), RepL C h X ds vs → RepL C h X (ds.drop k) (vs.drop k)
  | [], _, k, r => by simp only [RepL] at r; subst r; simp [RepL]
  | d :: ds, _, 0, r => by simpa using r
  | d :: ds, _, k + 1, r => by
    simp only [RepL] at r
    obtain ⟨v, t, rfl, r1, r2⟩ := r
    simpa using RepL.drop k r2
structure GI where
  prog : Program
  w : World
  K : Frag
  H0 : Heap
  C : Addr
  p : Program
  loose : List Str
  mg : Str → Option Value
  mb : Str → Option Value
  top : Nat
structure GI.Ok (g : GI) : Prop where
  X : g.K.In g.H0
  low : ∃ H1 : Heap, g.K.In H1 ∧ (∀ b o, H1.get? b = some o → g.H0.get? b = some o) ∧ H1.objs.size ≤ g.top
  topAt : ∃ a o, g.K.lookup a = some o ∧ g.top ≤ a + 1
  T : TopRead g.p g.loose g.mg g.mb g.H0
theorem GI.Ok.big {g : GI} (ok : g.Ok) {h : Heap} (X : g.K.In h) : g.top ≤ h.objs.size := by
  obtain ⟨a, o, e, ht⟩ := ok.topAt
  exact Nat.le_trans ht (Heap.lt_size (X a o e))
def fsOf (l : List Env) : List Addr := l.filterMap (·.frame)
structure CallSt (g : GI) (l : List Env) (h : Heap) : Prop where
  keep : ∀ b o, g.H0.get? b = some o → h.get? b = some o
  ff : h.FunFrames g.H0 l
structure Fm where
  env : Env
  A : Around
  stack : List Env
  outer : List Env
  hE : Heap
  xs : List Str
  ys : List Str
abbrev Fm.L (f : Fm) : Addr := f.env.locals
abbrev Fm.nm (f : Fm) : List Str := f.xs ++ f.ys
abbrev Fm.fs (f : Fm) : List Addr := f.L :: fsOf f.outer
theorem Fm.fs_eq (f : Fm) : f.fs = f.L :: fsOf f.outer := rfl
theorem Fm.nmx {f : Fm} {i : Nat} {x : Str} (hx : f.xs[i]? = some x) : f.nm[i]? = some x := by
  rw [List.getElem?_append_left (List.getElem?_eq_some_iff.mp hx).1]; exact hx
def Room (A : Around) (n : Nat) : Prop := A.depth + 3 * n < recursionLimit ∧ A.units + 8 * n < cLine
theorem Room.mono {A : Around} {n m : Nat} (h : Room A n) (hm : m ≤ n) : Room A m := ⟨by have := h.1; omega, by have := h.2; omega⟩
structure FmOk (g : GI) (f : Fm) (n : Nat) : Prop where
  G : g.Ok
  fr : f.A.frames = some f.stack
  hd : f.A.handled = none
  room : Room f.A n
  kind : f.env.scope.kind = .function
  eG : f.env.globals = mainGlobals
  eB : f.env.builtins = builtinsNs
  stk : ∀ h : Heap, (∃ o, h.get? f.L = some o ∧ ∀ vs, o.data ≠ .fields vs) → h.FunFrames g.H0 f.outer → h.FunFrames g.H0 f.stack
  sub : ∀ b ∈ fsOf f.stack, b ∈ f.fs
  big : g.top ≤ f.L
  newL : f.hE.get? f.L = none
  newL0 : g.H0.get? f.L = none
  nodup : f.nm.Nodup
  loc : ∀ x ∈ f.xs, f.env.kindOf x = some .local
  cel : ∀ x ∈ f.ys, f.env.kindOf x = some .cell
  ndb : ∀ x ∈ f.nm, (x == ("__debug__" : Str)) = false
  csE : CallSt g f.outer f.hE
theorem FmOk.ndx {g : GI} {f : Fm} {n : Nat} (ok : FmOk g f n) {x : Str} (hx : x ∈ f.xs) : (x == ("__debug__" : Str)) = false := ok.ndb x (List.mem_append_left _ hx)
inductive B where
  | sh (d : V)
  | li (l : List V)
  | ba (b : List UInt8)
  | bo (l : List V)
  | ce (d : Option V)
  | bc (d : V)
  | me (o : Option (List (List UInt8)))
  deriving Inhabited
def B.owns : B → Bool
  | .li _ | .ba _ | .ce _ | .me _ => true
  | _ => false
def B.obj : B → Bool
  | .li _ | .ba _ => true
  | _ => false
theorem B.obj_owns {b : B} (h : b.obj = true) : b.owns = true := by cases b <;> first | rfl | cases h
def MeOk (g : GI) (h : Heap) (X : Addr → Prop) (a : Addr) : Option (List (List UInt8)) → Prop
  | none => h.get? a = some emptyDict
  | some ls => ∃ hs tk t m, h.get? a = some (dictOf [⟨hs, .str "labels" tk, .ref t⟩] m) ∧ Rep g.C h X (.tup (ls.map .bytes)) (.ref t)
theorem MeOk.mono {g : GI} {h h' : Heap} {X X' : Addr → Prop} {a : Addr} {o : Option (List (List UInt8))} (v : MeOk g h X a o) (k : KX X h h') (hX : ∀ b, X' b → X b ∨ h.get? b = none) (ka : ∀ o, h.get? a = some o → h'.get? a = some o) : MeOk g h' X' a o := by
  cases o with
  | none => exact ka _ v
  | some ls => obtain ⟨hs, tk, t, m, e, r⟩ := v; exact ⟨hs, tk, t, m, ka _ e, r.mono k hX⟩
theorem MeOk.there {g : GI} {h : Heap} {X : Addr → Prop} {a : Addr} {o : Option (List (List UInt8))} (v : MeOk g h X a o) : ∃ o, h.get? a = some o := by
  cases o with
  | none => exact ⟨_, v⟩
  | some ls => obtain ⟨hs, tk, t, m, e, r⟩ := v; exact ⟨_, e⟩
def CellOk (g : GI) (h : Heap) (X : Addr → Prop) (a : Addr) : Option V → Prop
  | none => h.IsCell a none
  | some d => ∃ v, h.IsCell a (some v) ∧ Rep g.C h X d v
abbrev En := List (Option B)
def Own (ρ : En) (i : Nat) : Prop := ∃ b, ρ[i]? = some (some b) ∧ b.owns = true
structure Sp where
  Y : Addr → Prop
  α : Nat → Addr
def OwnA (σ : Sp) (ρ : En) (a : Addr) : Prop := ∃ i, Own ρ i ∧ a = σ.α i
def XOf (f : Fm) (σ : Sp) (ρ : En) : Addr → Prop := fun a => σ.Y a ∨ a = f.L ∨ OwnA σ ρ a
def VarOk (g : GI) (f : Fm) (h : Heap) (X : Addr → Prop) (m : Str → Option Value) (a : Addr) (x : Str) : B → Prop
  | .sh d => ∃ v, m x = some v ∧ Rep g.C h X d v
  | .li ds => m x = some (.ref a) ∧ ∃ vs n, h.get? a = some (lobj vs n) ∧ RepL g.C h X ds vs ∧ vs.length ≤ sizeLine
  | .ba b => m x = some (.ref a) ∧ b.length ≤ sizeLine ∧ h.get? a = some { cls := .type "bytearray", data := .bytearray b.toArray 0 }
  | .bo ds => ∃ a' vs n, m x = some (.ref a') ∧ f.hE.get? a' = some (lobj vs n) ∧ a' ∉ fsOf f.outer ∧ RepL g.C h X ds vs ∧ vs.length ≤ sizeLine
  | .ce d => f.env.cells.lookup x = some a ∧ CellOk g h X a d
  | .me o => a = f.hE.objs.size ∧ m x = some (.ref (a + 1)) ∧ h.get? (a + 1) = some (instObj g.C a) ∧ ¬ X (a + 1) ∧ MeOk g h X a o
  | .bc d => ∃ c v, f.env.cells.lookup x = some c ∧ f.hE.IsCell c (some v) ∧ c ∉ fsOf f.outer ∧ Rep g.C h X d v
structure St (g : GI) (f : Fm) (σ : Sp) (ρ : En) (h : Heap) : Prop where
  ex : ∃ m, h.Ns f.L m ∧ ∀ i x b, f.nm[i]? = some x → ρ[i]? = some (some b) → VarOk g f h (XOf f σ ρ) m (σ.α i) x b
  cs : CallSt g f.outer h
  kE : Kf (fsOf f.outer) f.hE h
  inj : ∀ i j, Own ρ i → Own ρ j → σ.α i = σ.α j → i = j
  fresh : ∀ i, Own ρ i → f.hE.get? (σ.α i) = none ∧ σ.α i ≠ f.L ∧ g.H0.get? (σ.α i) = none
  len : ρ.length ≤ f.nm.length
  Yfs : ∀ b ∈ fsOf f.outer, σ.Y b
  Yex : ∀ b, σ.Y b → ∃ o, h.get? b = some o
  offY : ∀ i, Own ρ i → ¬ σ.Y (σ.α i)
  Y0 : ∀ b, σ.Y b → g.H0.get? b = none
theorem St.fsX {g : GI} {f : Fm} {σ : Sp} {ρ : En} {h : Heap} (S : St g f σ ρ h) : ∀ b, b ∈ f.fs → XOf f σ ρ b := fun b hb => by
  rw [Fm.fs_eq] at hb
  rcases List.mem_cons.mp hb with rfl | hb
  · exact .inr (.inl rfl)
  · exact .inl (S.Yfs b hb)
theorem Kf.up {fs : List Addr} {h h' : Heap} (x : Kf fs h h') : h.UpToSlots h' := fun b o e _ => (x b o e).2
theorem Kf.ns {fs : List Addr} {h h' : Heap} {a : Addr} {m : Str → Option Value} (x : Kf fs h h') (n : h.Ns a m) : h'.Ns a m := x.up.ns n
theorem funFrames_kf {fs : List Addr} {h h' base : Heap} {l : List Env} (x : Kf fs h h') (hl : h.FunFrames base l) : h'.FunFrames base l :=
  Heap.FunFrames.of_keeps (fun b o e _ => let ⟨_, q⟩ := (x b o e).2; ⟨_, q, rfl⟩) hl
theorem CallSt.fs_none {g : GI} {l : List Env} {h : Heap} (c : CallSt g l h) {b : Addr} (hb : b ∈ fsOf l) : g.H0.get? b = none := (c.ff.mem hb).1
theorem CallSt.mono {g : GI} {l : List Env} {h h' : Heap} {fs : List Addr} (c : CallSt g l h) (hfs : ∀ b ∈ fs, g.H0.get? b = none) (k : Kf fs h h') : CallSt g l h' where
  keep := fun b o e => (k b o (c.keep b o e)).1 fun hb => by rw [hfs b hb] at e; cases e
  ff := funFrames_kf k c.ff
theorem none_of_ge {h : Heap} {a : Addr} (q : h.objs.size ≤ a) : h.get? a = none := Heap.get?_none_of_le q
theorem fs_none0 {g : GI} {f : Fm} {n : Nat} {h : Heap} (ok : FmOk g f n) (c : CallSt g f.outer h) : ∀ b ∈ f.fs, g.H0.get? b = none := fun b hb => by
  rw [Fm.fs_eq] at hb
  rcases List.mem_cons.mp hb with rfl | hb
  · exact ok.newL0
  · exact c.fs_none hb
theorem VarOk.mono {g : GI} {f : Fm} {h h' : Heap} {X : Addr → Prop} {m : Str → Option Value} {a : Addr} {x : Str} {b : B} (v : VarOk g f h X m a x b) (k : KX X h h')
    (ka : b.owns = true → ∀ o, h.get? a = some o → h'.get? a = some o) : VarOk g f h' X m a x b := by
  have hX : ∀ b, X b → X b ∨ h.get? b = none := fun b m => .inl m
  cases b with
  | sh d => obtain ⟨v, e, r⟩ := v; exact ⟨v, e, r.mono k hX⟩
  | li ds => obtain ⟨e, vs, n, e1, e4, e5⟩ := v; exact ⟨e, vs, n, ka rfl _ e1, e4.mono k hX, e5⟩
  | ba bs => obtain ⟨e, e1, e2⟩ := v; exact ⟨e, e1, ka rfl _ e2⟩
  | bo ds => obtain ⟨a', vs, n, e, e0, e1, e4, e5⟩ := v; exact ⟨a', vs, n, e, e0, e1, e4.mono k hX, e5⟩
  | ce d =>
    obtain ⟨e, c⟩ := v
    cases d with
    | none => obtain ⟨o, e1, e2⟩ := c; exact ⟨e, o, ka rfl _ e1, e2⟩
    | some d => obtain ⟨v, ⟨o, e1, e2⟩, r⟩ := c; exact ⟨e, v, ⟨o, ka rfl _ e1, e2⟩, r.mono k hX⟩
  | bc d => obtain ⟨c, v, e, e0, e1, r⟩ := v; exact ⟨c, v, e, e0, e1, r.mono k hX⟩
  | me o => obtain ⟨e0, e, e1, e2, e3⟩ := v; exact ⟨e0, e, k _ _ e1 e2, e2, e3.mono k hX (ka rfl)⟩
theorem kE_step {f : Fm} {h h' : Heap} (ab : f.hE.get? f.L = none) (kE : Kf (fsOf f.outer) f.hE h) (k : Kf f.fs h h') : Kf (fsOf f.outer) f.hE h' := fun b o e => by
  obtain ⟨p, sl, q⟩ := kE b o e
  have hbL : b ≠ f.L := fun z => by rw [z, ab] at e; cases e
  refine ⟨fun nb => (k b o (p nb)).1 fun hb => ?_, ?_⟩
  · rw [Fm.fs_eq] at hb
    exact (List.mem_cons.mp hb).elim hbL nb
  · obtain ⟨_, sl', q'⟩ := k b _ q
    exact ⟨sl', q'⟩
theorem own_off {g : GI} {f : Fm} {n : Nat} (ok : FmOk g f n) {a : Addr} (h1 : f.hE.get? a = none) (h2 : a ≠ f.L) : a ∉ f.fs := fun hb => by
  rw [Fm.fs_eq] at hb
  rcases List.mem_cons.mp hb with q | q
  · exact h2 q
  · obtain ⟨o', e', _⟩ := (ok.csE.ff.mem q).2
    rw [h1] at e'; cases e'
theorem St.mono {g : GI} {f : Fm} {n : Nat} {σ : Sp} {ρ : En} {h h' : Heap} (ok : FmOk g f n) (S : St g f σ ρ h) (k : Kf f.fs h h') : St g f σ ρ h' := by
  have fsX := S.fsX
  obtain ⟨⟨m, hns, hv⟩, c, kE, nd, fr, len, Yfs, Yex, offY, Y0⟩ := S
  refine ⟨⟨m, k.ns hns, fun i x b hx hb => (hv i x b hx hb).mono (k.kx fsX) fun ho o e => (k _ o e).1 ?_⟩, c.mono (fs_none0 ok c) k, kE_step ok.newL kE k, nd, fr, len, Yfs, fun b hb => let ⟨o, e⟩ := Yex b hb; let ⟨_, q⟩ := (k b o e).2; ⟨_, q⟩, offY, Y0⟩
  have := fr i ⟨b, hb, ho⟩
  exact own_off ok this.1 this.2.1
theorem VarOk.there {g : GI} {f : Fm} {h : Heap} {X : Addr → Prop} {m : Str → Option Value} {a : Addr} {x : Str} {b : B} (v : VarOk g f h X m a x b) (ho : b.owns = true) : ∃ o, h.get? a = some o := by
  cases b with
  | sh d => cases ho
  | li ds => obtain ⟨e, vs, n, e1, _⟩ := v; exact ⟨_, e1⟩
  | ba bs => obtain ⟨e, e1, e2⟩ := v; exact ⟨_, e2⟩
  | bo ds => cases ho
  | ce d => obtain ⟨_, c⟩ := v; cases d with
    | none => obtain ⟨o, e1, _⟩ := c; exact ⟨_, e1⟩
    | some d => obtain ⟨_, ⟨o, e1, _⟩, _⟩ := c; exact ⟨_, e1⟩
  | bc d => cases ho
  | me o => obtain ⟨_, _, _, _, e3⟩ := v; exact e3.there
theorem St.ownEx {g : GI} {f : Fm} {σ : Sp} {ρ : En} {h : Heap} (S : St g f σ ρ h) {a : Addr} (ha : OwnA σ ρ a) : ∃ o, h.get? a = some o := by
  obtain ⟨j, ⟨b', hb', ho⟩, hj⟩ := ha
  obtain ⟨m', _, hv⟩ := S.ex
  have hl : j < f.nm.length := Nat.lt_of_lt_of_le (List.getElem?_eq_some_iff.mp hb').1 S.len
  rw [hj]
  exact (hv j _ b' (List.getElem?_eq_getElem hl) hb').there ho
theorem St.Xex {g : GI} {f : Fm} {σ : Sp} {ρ : En} {h : Heap} (S : St g f σ ρ h) {a : Addr} (ha : XOf f σ ρ a) : ∃ o, h.get? a = some o := by
  rcases ha with m | m | m
  · exact S.Yex a m
  · obtain ⟨_, ⟨oL, _, _, hL, _⟩, _⟩ := S.ex; rw [m]; exact ⟨_, hL⟩
  · exact S.ownEx m
theorem St.X0 {g : GI} {f : Fm} {n : Nat} {σ : Sp} {ρ : En} {h : Heap} (ok : FmOk g f n) (S : St g f σ ρ h) {a : Addr} (ha : XOf f σ ρ a) : g.H0.get? a = none := by
  rcases ha with m | m | ⟨i, hi, m⟩
  · exact S.Y0 a m
  · rw [m]; exact ok.newL0
  · rw [m]; exact (S.fresh i hi).2.2
theorem St.fresh_off {g : GI} {f : Fm} {σ : Sp} {ρ : En} {h : Heap} (S : St g f σ ρ h) {a : Addr} (ha : h.get? a = none) : ¬ XOf f σ ρ a := fun m => by
  obtain ⟨o, e⟩ := S.Xex m; rw [ha] at e; cases e
def Fly (f : Fm) (h h' : Heap) (e : Addr) (c : Value) : Prop := Kf f.fs h h' ∧ ∃ a0, Heap.FlyingW (hideAll h f.fs) f.stack e c a0 h'
inductive Res where
  | ok (d : V)
  | exc (c : Value)
theorem hide_mono {fs : List Addr} {h h' : Heap} (k : Kf fs h h') : (hideAll h fs).StaysIn (hideAll h' fs) := fun b o e => by
  have hb : b ∉ fs := fun m => by rw [hideAll_none _ m] at e; cases e
  exact hideAll_get _ ((k b o (of_hideAll _ e)).1 hb) hb
theorem Fly.trans {f : Fm} {h h₁ h' : Heap} {e : Addr} {c : Value} (k : Kf f.fs h h₁) (x : Fly f h₁ h' e c) : Fly f h h' e c :=
  ⟨k.trans x.1, let ⟨a0, q⟩ := x.2; ⟨a0, flyingW_base (hide_mono k) q⟩⟩
def Ev (g : GI) (f : Fm) (ρ : En) (e : Expr) (r : Res) : Prop :=
  ∀ σ (s : Shared) (Q : Value → Shared → Prop) (E : Value → Shared → Prop), St g f σ ρ s.heap →
    (∀ v d h' tk, r = .ok d → Kf f.fs s.heap h' → Rep g.C h' (XOf f σ ρ) d v → Q v { s with heap := h', toks := tk }) →
    (∀ c e' h' tk, r = .exc c → Fly f s.heap h' e' c → E (.ref e') { s with heap := h', toks := tk }) →
    wpAny (model g.prog g.w) f.A (eval e f.env) Q E s
inductive ResL where
  | ok (d : List V)
  | exc (c : Value)
def Evs (g : GI) (f : Fm) (ρ : En) (es : List Expr) (r : ResL) : Prop :=
  ∀ pos σ (s : Shared) (Q : List Value → Shared → Prop) (E : Value → Shared → Prop), St g f σ ρ s.heap →
    (∀ vs ds h' tk, r = .ok ds → Kf f.fs s.heap h' → RepL g.C h' (XOf f σ ρ) ds vs → Q vs { s with heap := h', toks := tk }) →
    (∀ c e' h' tk, r = .exc c → Fly f s.heap h' e' c → E (.ref e') { s with heap := h', toks := tk }) →
    wpAny (model g.prog g.w) f.A (spliced (backTo pos (starEach es f.env))) Q E s
def EvO (g : GI) (f : Fm) (ρ : En) (e : Expr) (b : B) : Prop :=
  ∀ σ (s : Shared) (Q : Value → Shared → Prop) (E : Value → Shared → Prop), St g f σ ρ s.heap →
    (∀ a h' tk, Kf f.fs s.heap h' → s.heap.get? a = none → VarOk g f h' (fun b => XOf f σ ρ b ∨ b = a) (fun _ => some (.ref a)) a "" b → Q (.ref a) { s with heap := h', toks := tk }) →
    wpAny (model g.prog g.w) f.A (eval e f.env) Q E s
inductive Out where
  | next (ρ : En)
  | brk (ρ : En)
  | cont (ρ : En)
  | ret (d : V)
  | exc (c : Value) (ρ : En)
def RetOk (g : GI) (f : Fm) (Y : Addr → Prop) (h' : Heap) (d : V) (v : Value) : Prop := CallSt g f.outer h' ∧ Kf (fsOf f.outer) f.hE h' ∧ Rep g.C h' Y d v
structure Trn (f : Fm) (σ : Sp) (ρ : En) (h : Heap) (σ' : Sp) (ρ' : En) (h' : Heap) : Prop where
  keep : ∀ b o, h.get? b = some o → b ∉ f.fs → ¬ OwnA σ ρ b → h'.get? b = some o
  frames : ∀ b o, h.get? b = some o → b ∈ f.fs → ∃ o', h'.get? b = some o'
  own : ∀ b, OwnA σ' ρ' b → OwnA σ ρ b ∨ h.get? b = none
  Y : σ'.Y = σ.Y
theorem Trn.refl (f : Fm) (σ : Sp) (ρ : En) (h : Heap) : Trn f σ ρ h σ ρ h := ⟨fun _ _ e _ _ => e, fun _ o e _ => ⟨o, e⟩, fun _ m => .inl m, rfl⟩
theorem Trn.trans {f : Fm} {σ σ' σ'' : Sp} {ρ ρ' ρ'' : En} {h h' h'' : Heap} (x : Trn f σ ρ h σ' ρ' h') (y : Trn f σ' ρ' h' σ'' ρ'' h'') : Trn f σ ρ h σ'' ρ'' h'' := by
  have off : ∀ b o, h.get? b = some o → ¬ OwnA σ ρ b → ¬ OwnA σ' ρ' b := fun b o e n m => (x.own b m).elim n fun q => by rw [e] at q; cases q
  refine ⟨fun b o e n n' => y.keep b o (x.keep b o e n n') n (off b o e n'), fun b o e m => let ⟨o', e'⟩ := x.frames b o e m; y.frames b o' e' m, fun b m => ?_, y.Y.trans x.Y⟩
  rcases y.own b m with m | m
  · exact x.own b m
  · by_cases hx : OwnA σ ρ b
    · exact .inl hx
    · right
      cases q : h.get? b with
      | none => rfl
      | some o =>
        by_cases hf : b ∈ f.fs
        · obtain ⟨o', e'⟩ := x.frames b o q hf; rw [m] at e'; cases e'
        · have := x.keep b o q hf hx; rw [m] at this; cases this
theorem Kf.trn {f : Fm} {σ : Sp} {ρ : En} {h h' : Heap} (k : Kf f.fs h h') : Trn f σ ρ h σ ρ h' := ⟨fun b o e n _ => (k b o e).1 n, fun b o e _ => let ⟨_, q⟩ := (k b o e).2; ⟨_, q⟩, fun _ m => .inl m, rfl⟩
theorem Trn.kx {g : GI} {f : Fm} {σ σ' : Sp} {ρ ρ' : En} {h h' : Heap} (t : Trn f σ ρ h σ' ρ' h') (S : St g f σ ρ h) : KX (XOf f σ ρ) h h' := fun b o e n => t.keep b o e (fun m => n (S.fsX b m)) fun m => n (.inr (.inr m))
def OutOk (g : GI) (f : Fm) (σ : Sp) (ρ : En) (h h' : Heap) (fl : Flow) : Out → Prop
  | .next ρ' => fl = .next ∧ ∃ σ', St g f σ' ρ' h' ∧ Trn f σ ρ h σ' ρ' h'
  | .brk ρ' => fl = .brk ∧ ∃ σ', St g f σ' ρ' h' ∧ Trn f σ ρ h σ' ρ' h'
  | .cont ρ' => fl = .cont ∧ ∃ σ', St g f σ' ρ' h' ∧ Trn f σ ρ h σ' ρ' h'
  | .ret d => ∃ v, fl = .ret v ∧ RetOk g f σ.Y h' d v
  | .exc _ _ => False
def ExcOk (g : GI) (f : Fm) (σ : Sp) (ρ : En) (h h' : Heap) (e : Addr) (c : Value) (ρ' : En) : Prop :=
  ∃ σ' h₁, St g f σ' ρ' h₁ ∧ Trn f σ ρ h σ' ρ' h₁ ∧ (Fly f h₁ h' e c ∨ ∃ args, Heap.MadeExcOf h₁ h' e c args)
def Ex (g : GI) (f : Fm) (ρ : En) (b : List Stmt) (O : Out → Prop) : Prop :=
  ∀ σ (s : Shared) (Q : Flow → Shared → Prop) (E : Value → Shared → Prop), St g f σ ρ s.heap →
    (∀ fl o h' tk, O o → OutOk g f σ ρ s.heap h' fl o → Q fl { s with heap := h', toks := tk }) →
    (∀ c ρ' e h' tk, O (.exc c ρ') → ExcOk g f σ ρ s.heap h' e c ρ' → E (.ref e) { s with heap := h', toks := tk }) →
    wpAny (model g.prog g.w) f.A (execs b f.env) Q E s
theorem OutOk.pre {g : GI} {f : Fm} {σ σ' : Sp} {ρ ρ' : En} {h h₁ h' : Heap} {fl : Flow} {o : Out} (t : Trn f σ ρ h σ' ρ' h₁) (x : OutOk g f σ' ρ' h₁ h' fl o) : OutOk g f σ ρ h h' fl o := by
  cases o with
  | next r => obtain ⟨a, σ'', S, q⟩ := x; exact ⟨a, σ'', S, t.trans q⟩
  | brk r => obtain ⟨a, σ'', S, q⟩ := x; exact ⟨a, σ'', S, t.trans q⟩
  | cont r => obtain ⟨a, σ'', S, q⟩ := x; exact ⟨a, σ'', S, t.trans q⟩
  | ret d => obtain ⟨v, e, q⟩ := x; exact ⟨v, e, by rw [← t.Y]; exact q⟩
  | exc _ _ => exact x
theorem ExcOk.pre {g : GI} {f : Fm} {σ σ' : Sp} {ρ ρ' : En} {h h₁ h' : Heap} {e : Addr} {c : Value} {ρ'' : En} (t : Trn f σ ρ h σ' ρ' h₁) (x : ExcOk g f σ' ρ' h₁ h' e c ρ'') : ExcOk g f σ ρ h h' e c ρ'' := by
  obtain ⟨σ'', h₂, S, q, r⟩ := x
  exact ⟨σ'', h₂, S, t.trans q, r⟩
theorem Ex.after {g : GI} {f : Fm} {σ σ' : Sp} {ρ ρ' : En} {b : List Stmt} {O : Out → Prop} {s : Shared} {h' : Heap} {tk : Nat} {Q : Flow → Shared → Prop} {E : Value → Shared → Prop} (x : Ex g f ρ' b O) (S : St g f σ' ρ' h') (t : Trn f σ ρ s.heap σ' ρ' h')
    (q : ∀ fl o h' tk, O o → OutOk g f σ ρ s.heap h' fl o → Q fl { s with heap := h', toks := tk })
    (ex : ∀ c ρ' e h' tk, O (.exc c ρ') → ExcOk g f σ ρ s.heap h' e c ρ' → E (.ref e) { s with heap := h', toks := tk }) :
    wpAny (model g.prog g.w) f.A (execs b f.env) Q E { s with heap := h', toks := tk } :=
  x σ' { s with heap := h', toks := tk } Q E S (fun fl o h'' tk' ho ok => q fl o h'' tk' ho (ok.pre t)) fun c ρ'' e h'' tk' ho ok => ex c ρ'' e h'' tk' ho (ok.pre t)
theorem Ex.mono {g : GI} {f : Fm} {ρ : En} {b : List Stmt} {O O' : Out → Prop} (x : Ex g f ρ b O) (h : ∀ o, O o → O' o) : Ex g f ρ b O' :=
  fun σ s Q E S q e => x σ s Q E S (fun fl o h' tk ho => q fl o h' tk (h _ ho)) fun c ρ' e' h' tk ho => e c ρ' e' h' tk (h _ ho)
def Fn (g : GI) (n : Nat) (fv : Value) (ds : List V) (r : Res) : Prop :=
  ∀ (A : Around) (l : List Env) (Y : Addr → Prop) (vs : List Value) (s : Shared) (R : Result → Shared → Prop), g.Ok → A.frames = some l → A.handled = none → Room A n →
    CallSt g l s.heap → (∀ b ∈ fsOf l, Y b) → (∀ b, Y b → ∃ o, s.heap.get? b = some o) → (∀ b, Y b → g.H0.get? b = none) → RepL g.C s.heap Y ds vs →
    (∀ v d h' tk, r = .ok d → Kf (fsOf l) s.heap h' → Rep g.C h' Y d v → R (.ok (.ret v)) { s with heap := h', toks := tk }) →
    (∀ c e a0 h' tk, r = .exc c → Kf (fsOf l) s.heap h' → Heap.FlyingW (hideAll s.heap (fsOf l)) l e c a0 h' → R (.error (.ref e)) { s with heap := h', toks := tk }) →
    codeAny (model g.prog g.w) A (.call fv ⟨vs, []⟩) R s
section
variable {g : GI} {f : Fm} {n : Nat} {ρ : En}
theorem Ev.name {x : Str} {pos : Pos} {d : V} (ok : FmOk g f n) (i : Nat) (hx : f.xs[i]? = some x) (hm : ρ[i]? = some (some (B.sh d))) :
    Ev g f ρ (.Name x pos) (.ok d) := fun σ s Q E S q _ => by
  obtain ⟨m, hns, hv⟩ := S.ex
  obtain ⟨v, e, r⟩ := hv i x _ (Fm.nmx hx) hm
  have hmem := List.mem_of_getElem? hx
  exact wpAny_Name (wpAny_loadName_local ok.kind (ok.loc x hmem) hns e (q v d s.heap s.toks rfl (Kf.refl _ _) r)) (ok.ndx hmem)
theorem Ev.cint {i : Int} {k : Nat} {pos : Pos} : Ev g f ρ (.Constant (.int i) k pos) (.ok (.int i)) := fun σ s Q E S q _ =>
  wpAny_Constant_int (q _ _ s.heap _ rfl (Kf.refl _ _) (by simp only [Rep]; exact ⟨_, rfl⟩))
theorem Ev.cbool {b : Bool} {k : Nat} {pos : Pos} : Ev g f ρ (.Constant (.bool b) k pos) (.ok (.bool b)) := fun σ s Q E S q _ =>
  wpAny_Constant_bool (q _ _ s.heap s.toks rfl (Kf.refl _ _) (by simp only [Rep]))
theorem Ev.cnone {k : Nat} {pos : Pos} : Ev g f ρ (.Constant .none k pos) (.ok .none) := fun σ s Q E S q _ =>
  wpAny_Constant_none (q _ _ s.heap s.toks rfl (Kf.refl _ _) (by simp only [Rep]))
theorem Ev.cbytes {b : List UInt8} {k : Nat} {pos : Pos} (hb : b.length ≤ 1000) : Ev g f ρ (.Constant (.bytes b) k pos) (.ok (.bytes b)) := fun σ s Q E S q _ => by
  show wpAny _ _ (mkTextBytes b.toArray) _ _ _
  exact wpAny_mkTextBytes (q _ _ s.heap _ rfl (Kf.refl _ _) (by simp only [Rep]; exact ⟨⟨_, rfl⟩, Nat.le_trans hb (by unfold sizeLine; decide)⟩))
theorem Evs.nil : Evs g f ρ [] (.ok []) := fun pos σ s Q E S q _ =>
  spliced_nil (q [] [] s.heap s.toks rfl (Kf.refl _ _) (by simp only [RepL]))
theorem Evs.cons {e : Expr} {es : List Expr} {d : V} {ds : List V} (ok : FmOk g f n) (h1 : Ev g f ρ e (.ok d)) (h2 : Evs g f ρ es (.ok ds)) (hns : starEach (e :: es) f.env = (false, eval e f.env) :: starEach es f.env) :
    Evs g f ρ (e :: es) (.ok (d :: ds)) := fun pos σ s Q E S q ex => by
  rw [hns]
  refine spliced_cons (x := eval e f.env) (rest := backTo pos (starEach es f.env)) ?_
  refine h1 σ s _ _ S (fun v d' h₁ t₁ ed k₁ r₁ => ?_) fun c e' h' tk ec => nomatch ec
  injection ed with ed; subst ed
  refine h2 pos σ _ _ _ (S.mono ok k₁) (fun vs ds' h₂ t₂ eds k₂ r₂ => ?_) fun c e' h' tk ec => nomatch ec
  injection eds with eds; subst eds
  refine q (v :: vs) _ h₂ t₂ rfl (k₁.trans k₂) ?_
  simp only [RepL]
  exact ⟨v, vs, rfl, r₁.mono (k₂.kx S.fsX) fun b m => .inl m, r₂⟩
end
def RetO : Res → Out → Prop
  | .ok d, o => o = .ret d ∨ (d = .none ∧ ∃ ρ, o = .next ρ)
  | .exc c, o => ∃ ρ, o = .exc c ρ
theorem lookup_zip {names : List Str} {vs : List Value} (hn : names.Nodup) {i : Nat} {x : Str} {v : Value} (hx : names[i]? = some x) (hv : vs[i]? = some v) :
    (names.zip vs).reverse.lookup x = some v := by
  induction names generalizing vs i with
  | nil => simp at hx
  | cons y ys ih =>
    cases vs with
    | nil => simp at hv
    | cons u us =>
      simp only [List.zip_cons_cons, List.reverse_cons, List.lookup_append]
      cases i with
      | zero =>
        simp at hx hv; subst hx; subst hv
        have : (ys.zip us).reverse.lookup y = none := by
          rw [List.lookup_eq_none_iff]
          intro p hp
          have hp' := List.mem_reverse.mp hp
          have := (List.of_mem_zip (a := p.1) (b := p.2) hp').1
          simp only [bne_iff_ne, ne_eq, beq_eq_false_iff_ne]
          intro e
          exact (List.nodup_cons.mp hn).1 (e ▸ this)
        rw [this]; simp
      | succ i =>
        simp at hx hv
        rw [ih (List.nodup_cons.mp hn).2 hx hv]; rfl
theorem repl_entry {g : GI} {h h₁ : Heap} {Y Y' : Addr → Prop} {L : Addr} (hk : ∀ b o, h.get? b = some o → h₁.get? b = some o) (hL : h.get? L = none) (hY : ∀ b, Y' b → Y b ∨ b = L) {d : List V} {v : List Value}
    (r : RepL g.C h Y d v) : RepL g.C h₁ Y' d v := r.mono (fun b o e _ => hk b o e) fun b m => by
  rcases hY b m with m | m
  · exact .inl m
  · rw [m]; exact .inr hL
def shEn (k : Nat) (ds : List V) : En := ds.map (fun d => some (B.sh d)) ++ List.replicate k none
theorem shEn_own {k : Nat} {ds : List V} {i : Nat} : ¬ Own (shEn k ds) i := by
  rintro ⟨b, hb, ho⟩
  unfold shEn at hb
  have := List.mem_of_getElem? hb
  rcases List.mem_append.mp this with m | m
  · obtain ⟨d, _, e⟩ := List.mem_map.mp m
    injection e with e; subst e; cases ho
  · have := (List.mem_replicate.mp m).2; cases this
theorem shEn_get {k : Nat} {ds : List V} {i : Nat} {b : B} (h : (shEn k ds)[i]? = some (some b)) : ∃ d, ds[i]? = some d ∧ b = .sh d := by
  unfold shEn at h
  rcases Nat.lt_or_ge i ds.length with hi | hi
  · rw [List.getElem?_append_left (by simpa using hi)] at h
    simp only [List.getElem?_map] at h
    cases q : ds[i]? with
    | none => rw [q] at h; cases h
    | some d => rw [q] at h; simp at h; exact ⟨d, rfl, h.symm⟩
  · rw [List.getElem?_append_right (by simpa using hi)] at h
    have := List.mem_of_getElem? h
    have := (List.mem_replicate.mp this).2; cases this
theorem leave_exc {g : GI} {f : Fm} {n : Nat} (ok : FmOk g f n) (hst : f.stack = f.env :: f.outer) (hfr : f.env.frame = some f.L) {σ₀ : Sp} {ρ₀ ρ : En} {h₀ : Heap} {e : Addr} {c : Value} {s' : Shared} (x : ExcOk g f σ₀ ρ₀ h₀ s'.heap e c ρ) {Q : Unit → Shared → Prop} {E : Value → Shared → Prop}
    (hQ : ∀ h' a0, Kf (fsOf f.outer) f.hE h' → Heap.FlyingW (hideAll f.hE (fsOf f.outer)) f.outer e c a0 h' → Q () { s' with heap := h' }) :
    wpAny (model g.prog g.w) f.A (leaving f.env (.ref e)) Q E s' := by
  obtain ⟨σ, h₁, S, _, hx⟩ := x
  have offL : ∀ b o, f.hE.get? b = some o → b ∉ fsOf f.outer → b ∉ f.fs := fun b o e nb m => by
    rw [Fm.fs_eq] at m
    rcases List.mem_cons.mp m with q | q
    · rw [q, ok.newL] at e; cases e
    · exact nb q
  have base : (hideAll f.hE (fsOf f.outer)).StaysIn (hideAll h₁ f.fs) := fun b o e => by
    have nb : b ∉ fsOf f.outer := fun m => by rw [hideAll_none _ m] at e; cases e
    have e' := of_hideAll _ e
    exact hideAll_get _ ((S.kE b o e').1 nb) (offL b o e' nb)
  have fin : ∀ h' a0, h₁.UpToSlots h' → Heap.FlyingW (hideAll h₁ f.fs) f.outer e c a0 h' → Q () { s' with heap := h' } := fun h' a0 up fl => by
    refine hQ h' a0 (fun b o e => ?_) (flyingW_base base fl)
    obtain ⟨p, sl, q⟩ := S.kE b o e
    have xx : b ∉ fsOf f.outer → h'.get? b = some o := fun nb => fl.1 b o (hideAll_get _ (p nb) (offL b o e nb))
    refine ⟨xx, ?_⟩
    by_cases hb : b ∈ fsOf f.outer
    · obtain ⟨o', e', nf⟩ := (ok.csE.ff.mem hb).2
      rw [e] at e'; cases e'
      obtain ⟨sl', q'⟩ := up b _ q nf
      exact ⟨sl', q'⟩
    · exact ⟨o.slots, xx hb⟩
  have hff : h₁.FunFrames g.H0 f.stack := by
    obtain ⟨m, ⟨oL, es, ep, hL, hd, _⟩, _⟩ := S.ex
    exact ok.stk h₁ ⟨oL, hL, fun vs q => by rw [hd] at q; cases q⟩ S.cs.ff
  have fr' : f.A.frames = some (f.env :: f.outer) := hst ▸ ok.fr
  rcases hx with ⟨k, a0, fl⟩ | ⟨args, mk⟩
  · rw [hst] at fl
    exact wpAny_leaves_onW (env := f.env) (outer := f.outer) (L := f.L) fr' hfr fl fun h' x1 x2 => fin h' a0 (k.up.trans x2) x1
  · have hin : ∀ env ∈ f.stack, ∀ b, env.frame = some b → b ∈ f.fs := fun env he b hb => ok.sub b (List.mem_filterMap.mpr ⟨env, he, hb⟩)
    have hff' := funFrames_hide hff hin
    rw [hst] at hff'
    exact wpAny_leaves_madeW (env := f.env) (outer := f.outer) (L := f.L) fr' hfr (fun b o q => of_hideAll _ q) hff' mk fun h' t x1 x2 x3 x4 =>
      fin h' _ ((Heap.UpToSlots.of_keeps mk.keeps).trans x4) x1
theorem Fn.introT {g : GI} {n : Nat} {fa : Addr} {ds dx : List V} {r : Res} {names loc : List Str} {xs : List Value} {name qual : Str} {params : Arguments} {body : List Stmt} {scope : Scope} {dV kV doc pm cdv ct oc : Value} {an od : Option Addr} {osl : Array (Option Value)}
    (ho : g.K.lookup fa = some ⟨oc, od, .func (fnOf name qual params body scope dV kV doc pm an cdv ct), osl⟩) (hcd : codeIn g.K cdv qual = true)
    (hbind : ∀ (vs : List Value) (s : Shared), vs.length = ds.length → g.K.In s.heap → BindsTo s (fnOf name qual params body scope dV kV doc pm an cdv ct) ⟨vs, []⟩ (names.zip (vs ++ xs)))
    (hxs : ∀ h X, RepL g.C h X dx xs)
    (hn : (names ++ loc).Nodup) (hlen : names.length = ds.length + dx.length) (hloc : ∀ y ∈ names ++ loc, scope.names.lookup y = some .local) (hdb : ∀ x ∈ names ++ loc, (x == ("__debug__" : Str)) = false)
    (hb : ∀ f : Fm, FmOk g f n → f.env.scope = scope → f.xs = names ++ loc → f.ys = [] → f.env.cells = [] → f.stack = f.env :: f.outer → f.env.frame = some f.L → Ex g f (shEn loc.length (ds ++ dx)) body (RetO r))
    (hco : scope.isCoroutine = false := by rfl) (hgen : scope.isGenerator = false := by rfl) (hk : scope.kind = .function := by rfl) (hcell : ∀ x ∈ scope.names, x.2 ≠ .cell := by decide) :
    Fn g (n + 1) (.ref fa) ds r := by
  intro A l Y vs s R ok hA hh room cs hY hYex hY0 hr q ex
  have X : g.K.In s.heap := ok.X.keeps cs.keep
  have hvl : vs.length = ds.length := RepL.length hr
  have hxl : xs.length = dx.length := RepL.length (hxs s.heap (fun _ => False))
  have hL : s.heap.get? s.heap.objs.size = none := none_of_ge (Nat.le_refl _)
  have hL0 : g.H0.get? s.heap.objs.size = none := by
    cases z : g.H0.get? s.heap.objs.size with
    | none => rfl
    | some o => have := cs.keep _ _ z; rw [hL] at this; cases this
  have hnn : names.Nodup := (List.nodup_append.mp hn).1
  refine codeAny_call_def (fd := fnOf name qual params body scope dV kV doc pm an cdv ct) (body := body) (binds := names.zip (vs ++ xs)) (by have := room.1; omega) (X _ _ ho) rfl
    (ok.T.nolimit.keeps cs.keep) (codeRec_of X hcd) rfl (hbind vs s hvl X) hcell (fun y hy => hloc _ (List.mem_append_left _ (List.of_mem_zip (a := y.1) (b := y.2) hy).1)) (fun h₁ hns hk₁ => ?_) hco hgen hk
  let f : Fm := ⟨envOf qual scope s.heap.objs.size fa cdv, A.deeper (envOf qual scope s.heap.objs.size fa cdv), envOf qual scope s.heap.objs.size fa cdv :: l, l, s.heap, names ++ loc, []⟩
  have fok : FmOk g f n := {
    G := ok
    fr := Around.frames_deeper hA
    hd := hh
    room := ⟨by show A.depth + 1 + 3 * n < recursionLimit; have := room.1; omega, by show A.units + 3 + 8 * n < cLine; have := room.2; omega⟩
    kind := hk
    eG := rfl
    eB := rfl
    stk := fun h ⟨o, e, hd⟩ ff => ⟨by show scope.kind ≠ .module; rw [hk]; decide, ⟨_, o, rfl, hL0, e, hd⟩, ff⟩
    sub := fun b hb => hb
    big := ok.big X
    newL := hL
    newL0 := hL0
    nodup := by show (names ++ loc ++ []).Nodup; rw [List.append_nil]; exact hn
    loc := hloc
    cel := fun x hx => nomatch hx
    ndb := by show ∀ x ∈ names ++ loc ++ [], _; rw [List.append_nil]; exact hdb
    csE := cs }
  have S : St g f ⟨Y, fun _ => 0⟩ (shEn loc.length (ds ++ dx)) h₁ := by
    refine ⟨⟨_, hns, ?_⟩, cs.mono (fs := []) (fun b hb => nomatch hb) (Kf.of_keeps hk₁), Kf.of_keeps hk₁, fun i j hi => (shEn_own hi).elim, fun i hi => (shEn_own hi).elim, by simp [shEn, f, hlen]; omega, hY, fun b hb => let ⟨o, e⟩ := hYex b hb; ⟨o, hk₁ b o e⟩, fun i hi => (shEn_own hi).elim, hY0⟩
    intro i x b hx hb
    obtain ⟨d, hd, rfl⟩ := shEn_get hb
    have hi : i < names.length := by
      rw [hlen, ← List.length_append]
      exact (List.getElem?_eq_some_iff.mp hd).1
    have hx' : names[i]? = some x := by
      rw [← hx]; show _ = (names ++ loc ++ [])[i]?
      rw [List.append_nil]; exact (List.getElem?_append_left hi).symm
    have hX : ∀ b, XOf f ⟨Y, fun _ => 0⟩ (shEn loc.length (ds ++ dx)) b → Y b ∨ b = s.heap.objs.size := fun b hb => by
      rcases hb with hb | hb | ⟨i, hi, _⟩
      · exact .inl hb
      · exact .inr hb
      · exact (shEn_own hi).elim
    have rr : RepL g.C h₁ (XOf f ⟨Y, fun _ => 0⟩ (shEn loc.length (ds ++ dx))) (ds ++ dx) (vs ++ xs) := (repl_entry hk₁ hL hX hr).append (hxs _ _)
    obtain ⟨v, ev, rv⟩ := rr.get hd
    exact ⟨v, lookup_zip hnn hx' ev, rv⟩
  refine hb f fok rfl rfl rfl rfl rfl rfl _ _ _ _ S (fun fl o h' tk ho hok => ?_) (fun c ρ' e h' tk ho hx => ?_)
  · cases r with
    | exc c => obtain ⟨ρ', rfl⟩ := ho; exact hok.elim
    | ok d =>
      rcases ho with rfl | ⟨rfl, ρ', rfl⟩
      · obtain ⟨v, rfl, c, k, rep⟩ := hok
        exact q v d h' tk rfl k rep
      · obtain ⟨rfl, σ, S', _⟩ := hok
        exact q .none .none h' tk rfl S'.kE (by simp only [Rep])
  · cases r with
    | ok d =>
      rcases ho with ho | ⟨_, _, ho⟩ <;> cases ho
    | exc c' =>
      obtain ⟨ρ'', ho⟩ := ho
      injection ho with e1 e2; subst e1 e2
      exact leave_exc (s' := { heap := h', gens := s.gens, drawn := s.drawn, toks := tk, os := s.os }) fok rfl rfl hx fun h'' a0 k fl => ex c e a0 h'' tk rfl k fl
theorem Fn.intro {g : GI} {n : Nat} {fa : Addr} {ds dx : List V} {r : Res} {names loc : List Str} {xs : List Value} {name qual : Str} {params : Arguments} {body : List Stmt} {scope : Scope} {dV kV doc pm cdv ct oc : Value} {an od : Option Addr} {osl : Array (Option Value)}
    (ho : g.K.lookup fa = some ⟨oc, od, .func (fnOf name qual params body scope dV kV doc pm an cdv ct), osl⟩) (hcd : codeIn g.K cdv qual = true)
    (hbind : ∀ (vs : List Value) (s : Shared), vs.length = ds.length → g.K.In s.heap → BindsTo s (fnOf name qual params body scope dV kV doc pm an cdv ct) ⟨vs, []⟩ (names.zip (vs ++ xs)))
    (hxs : ∀ h X, RepL g.C h X dx xs)
    (hn : (names ++ loc).Nodup) (hlen : names.length = ds.length + dx.length) (hloc : ∀ y ∈ names ++ loc, scope.names.lookup y = some .local) (hdb : ∀ x ∈ names ++ loc, (x == ("__debug__" : Str)) = false)
    (hb : ∀ f : Fm, FmOk g f n → f.env.scope = scope → f.xs = names ++ loc → f.ys = [] → f.env.cells = [] → Ex g f (shEn loc.length (ds ++ dx)) body (RetO r))
    (hco : scope.isCoroutine = false := by rfl) (hgen : scope.isGenerator = false := by rfl) (hk : scope.kind = .function := by rfl) (hcell : ∀ x ∈ scope.names, x.2 ≠ .cell := by decide) :
    Fn g (n + 1) (.ref fa) ds r :=
  Fn.introT ho hcd hbind hxs hn hlen hloc hdb (fun f a b c d e _ _ => hb f a b c d e) hco hgen hk hcell
def GV (g : GI) (x : Str) (v : Value) : Prop :=
  ∀ (f : Fm) (n : Nat) (pos : Pos) (s : Shared) (Q : Value → Shared → Prop) (E : Value → Shared → Prop), FmOk g f n → f.env.kindOf x = some .globalImplicit → CallSt g f.outer s.heap → Q v s →
    wpAny (model g.prog g.w) f.A (eval (.Name x pos) f.env) Q E s
theorem GV.glob {g : GI} {x : Str} {v : Value} (e : nsIn g.K mainGlobals x = some (some v)) (hd : (x == ("__debug__" : Str)) = false) : GV g x v := fun f n pos s Q E ok hx cs h =>
  Calls.Name_function_global ok.kind hx (Calls.loadGlobal_global (env := f.env) (ok.eG ▸ ok.G.T.g.keeps cs.keep) (mg_of ok.G.X ok.G.T.g e) h) hd
theorem GV.boot {g : GI} {x : Str} {v : Value} (e : nsIn g.K mainGlobals x = some none) (hv : bootBuiltins x = some v) (hn : x ≠ "__name__") (hd : (x == ("__debug__" : Str)) = false) : GV g x v := fun f n pos s Q E ok hx cs h => by
  have hk := ok.kind
  exact Calls.Name_function_global hk hx (Calls.loadGlobal_builtin (env := f.env) (ok.eG ▸ ok.G.T.g.keeps cs.keep) (mg_none_of ok.G.X ok.G.T.g e) (ok.eB ▸ ok.G.T.b.keeps cs.keep) ((ok.G.T.builtins x hn).trans hv) h) hd
def Kept (g : GI) (fv : Value) : Prop := (∀ a, fv ≠ .ref a) ∨ keepIn g.K fv = true
theorem kept_looks {g : GI} {M : Model} {fv : Value} (hk : Kept g fv) (h : Heap) (X : g.K.In h) : ∃ k, (k = Keeper.frame ∨ k = Keeper.machine ∨ k = Keeper.boundFrame) ∧ Looks M h (keeperOf fv) k := by
  rcases hk with hk | hk
  · refine ⟨.machine, .inr (.inl rfl), Looks.of_pure ?_⟩
    unfold keeperOf
    cases fv with
    | ref a => exact (hk a rfl).elim
    | _ => rfl
  · exact keeps_K hk h X
section
variable {g : GI} {f : Fm} {n m : Nat} {ρ : En}
theorem St.call {σ : Sp} {h : Heap} (ok : FmOk g f n) (S : St g f σ ρ h) : CallSt g f.stack h := by
  refine ⟨S.cs.keep, ?_⟩
  obtain ⟨m, ⟨oL, es, ep, hL, hd, _⟩, _⟩ := S.ex
  exact ok.stk h ⟨oL, hL, fun vs q => by rw [hd] at q; cases q⟩ S.cs.ff
theorem fly_of {h h' : Heap} {e : Addr} {a0 c : Value} (ok : FmOk g f n) (k : Kf (fsOf f.stack) h h') (fl : Heap.FlyingW (hideAll h (fsOf f.stack)) f.stack e c a0 h') : Fly f h h' e c := by
  refine ⟨k.mono ok.sub, a0, flyingW_base (fun b o eb => ?_) fl⟩
  have nb : b ∉ f.fs := fun m => by rw [hideAll_none _ m] at eb; cases eb
  exact hideAll_get _ (of_hideAll _ eb) fun m => nb (ok.sub b m)
theorem call_of {fv : Value} {σ : Sp} {ds : List V} {r : Res} {vs : List Value} {s : Shared} {Q : Value → Shared → Prop} {E : Value → Shared → Prop} (ok : FmOk g f n) (hm : m ≤ n) (S : St g f σ ρ s.heap) (hr : RepL g.C s.heap (XOf f σ ρ) ds vs)
    (hf : Fn g m fv ds r)
    (q : ∀ v d h' tk, r = .ok d → Kf f.fs s.heap h' → Rep g.C h' (XOf f σ ρ) d v → Q v { s with heap := h', toks := tk })
    (ex : ∀ c e' h' tk, r = .exc c → Fly f s.heap h' e' c → E (.ref e') { s with heap := h', toks := tk }) :
    wpAny (model g.prog g.w) f.A (call fv vs) Q E s := by
  refine wpAny_call ?_
  exact hf f.A f.stack (XOf f σ ρ) vs s _ ok.G ok.fr ok.hd (ok.room.mono hm) (S.call ok) (fun b hb => S.fsX b (ok.sub b hb)) (fun b hb => S.Xex hb) (fun b hb => S.X0 ok hb) hr (fun v d h' tk e k rep => q v d h' tk e (k.mono ok.sub) rep) fun c e a0 h' tk er k fl => ex c e h' tk er (fly_of ok k fl)
theorem call_evs {fv : Value} {dfirst : List V} {first : List Value} {e : Expr} {es : List Expr} {pos : Pos} {σ : Sp} {ds : List V} {r : Res} {s : Shared} {Q : Value → Shared → Prop} {E : Value → Shared → Prop}
    (ok : FmOk g f n) (hm : m ≤ n) (hk : Kept g fv) (S : St g f σ ρ s.heap) (hfirst : RepL g.C s.heap (XOf f σ ρ) dfirst first)
    (hh : starEach (e :: es) f.env = (false, eval e f.env) :: starEach es f.env) (hplain : (backTo pos (starEach es f.env)).any (·.1) = false) (ha : Evs g f ρ (e :: es) (.ok ds))
    (hf : Fn g m fv (dfirst ++ ds) r)
    (q : ∀ v d h' tk, r = .ok d → Kf f.fs s.heap h' → Rep g.C h' (XOf f σ ρ) d v → Q v { s with heap := h', toks := tk })
    (ex : ∀ c e' h' tk, r = .exc c → Fly f s.heap h' e' c → E (.ref e') { s with heap := h', toks := tk }) :
    wpAny (model g.prog g.w) f.A (callWith pos fv first (backTo pos (starEach (e :: es) f.env)) []) Q E s := by
  refine callWith_of (P := fun h => g.K.In h) (by rw [hh]; show ((false || (backTo pos (starEach es f.env)).any (·.1)) || false) = false; rw [hplain]; rfl) (kept_looks hk) ?_
  have hpos := ha pos
  rw [hh] at hpos ⊢
  refine evalArgs_plain (x := eval e f.env) (rest := backTo pos (starEach es f.env)) ?_
  refine hpos σ s _ _ S (fun vs ds' h' tk ed k rr => ?_) fun c e' h' tk ec => nomatch ec
  injection ed with ed; subst ed
  have S' := S.mono ok k
  refine ⟨ok.G.X.keeps S'.cs.keep, ?_⟩
  exact call_of (s := { s with heap := h', toks := tk }) ok hm S' (RepL.append (hfirst.mono (k.kx S.fsX) fun b m => .inl m) rr) hf (fun v d h'' tk' er k' rep => q v d h'' tk' er (k.trans k') rep)
    fun c e' h'' tk' er fl => ex c e' h'' tk' er (fl.trans k)
theorem call_evs0 {fv : Value} {dfirst : List V} {first : List Value} {pos : Pos} {σ : Sp} {r : Res} {s : Shared} {Q : Value → Shared → Prop} {E : Value → Shared → Prop}
    (ok : FmOk g f n) (hm : m ≤ n) (hk : Kept g fv) (S : St g f σ ρ s.heap) (hfirst : RepL g.C s.heap (XOf f σ ρ) dfirst first) (hf : Fn g m fv dfirst r)
    (q : ∀ v d h' tk, r = .ok d → Kf f.fs s.heap h' → Rep g.C h' (XOf f σ ρ) d v → Q v { s with heap := h', toks := tk })
    (ex : ∀ c e' h' tk, r = .exc c → Fly f s.heap h' e' c → E (.ref e') { s with heap := h', toks := tk }) :
    wpAny (model g.prog g.w) f.A (callWith pos fv first (backTo pos (starEach [] f.env)) []) Q E s := by
  refine callWith_of (P := fun h => g.K.In h) rfl (kept_looks hk) ?_
  refine evalArgs_nil3 ⟨ok.G.X.keeps S.cs.keep, ?_⟩
  have e : first ++ ([] : List Value) = first := List.append_nil _
  rw [e]
  exact call_of ok hm S hfirst hf q ex
theorem Ev.call {x : Str} {np pos : Pos} {fv : Value} {e : Expr} {es : List Expr} {ds : List V} {r : Res} (ok : FmOk g f n) (hx : f.env.kindOf x = some .globalImplicit) (gv : GV g x fv) (hk : Kept g fv) (hm : m ≤ n)
    (ha : Evs g f ρ (e :: es) (.ok ds)) (hf : Fn g m fv ds r)
    (hh : starEach (e :: es) f.env = (false, eval e f.env) :: starEach es f.env := by rfl) (hplain : (backTo pos (starEach es f.env)).any (·.1) = false := by rfl) :
    Ev g f ρ (.Call (.Name x np) (e :: es) [] pos) r := fun σ s Q E S q ex => by
  refine wpAny_Call_ofName (gv f n np s _ _ ok hx S.cs ?_)
  exact call_evs (dfirst := []) (first := []) ok hm hk S (by simp only [RepL]) hh hplain ha hf q ex
theorem meth_eq {o : Expr} {name : Str} {apos pos : Pos} {args : List Expr} (hb : attributeBase o name f.env (eval o f.env) = eval o f.env) (hfew : methodCallForm (args.length + 0) (backTo pos (starEach args f.env)) [] = true)
    (hline : (apos.endLine == pos.line) = true) : eval (.Call (.Attribute o name apos) args [] pos) f.env = (do
      let ov ← eval o f.env
      standAt apos.atName
      let (fn, first) ← holding [ov] (getMethod ov name (do return (← importBound o f.env).getD true))
      callWith pos fn first (backTo pos (starEach args f.env)) []) := by
  have e : eval (.Call (.Attribute o name apos) args [] pos) f.env = (do
      let ov ← attributeBase o name f.env (eval o f.env)
      standAt apos.atName
      methodCall o name apos pos f.env ov (args.length + 0) (backTo pos (starEach args f.env)) []) := rfl
  rw [e, hb]
  unfold methodCall calleeOf methodCallPos
  rw [hfew, hline]
  rfl
theorem name_inst {h : Heap} {X : Addr → Prop} {ls : List (List UInt8)} {v : Value} (r : Rep g.C h X (.name ls) v) :
    ∃ x dx t hs tk nn, v = .ref x ∧ PySem.W.InstAt h x (instObj g.C dx) g.C (some (dictOf [⟨hs, .str "labels" tk, .ref t⟩] nn)) ∧ (Rep g.C h X (.tup (ls.map .bytes)) (.ref t)) := by
  simp only [Rep] at r
  obtain ⟨x, dx, hs, tk, t, vs, n, m, e1, e2, e5, e7, e10, e11, tks, e12, e13⟩ := r
  refine ⟨x, dx, t, hs, tk, m, e1, ⟨e2.1, rfl, rfl, e5.1⟩, ?_⟩
  simp only [Rep]
  refine ⟨t, vs, n, rfl, e7, ?_, e10⟩
  subst e13
  clear e1 e2 e5 e7 e10
  induction ls generalizing tks with
  | nil => simp [RepL]
  | cons b bs ih =>
    cases tks with
    | nil => simp at e12
    | cons u us =>
      simp only [List.map_cons, List.zip_cons_cons, RepL]
      refine ⟨_, _, rfl, ?_, ih (fun b hb => e11 b (.tail _ hb)) us (by simpa using e12)⟩
      simp only [Rep]
      exact ⟨⟨_, rfl⟩, e11 b (.head _)⟩
structure MethK (g : GI) (name : Str) (fa : Addr) : Prop where
  ga : findIn g.K (.ref g.C) "__getattribute__" = some (some (.builtin "object.__getattribute__"))
  gx : findIn g.K (.ref g.C) "__getattr__" = some none
  hf : findIn g.K (.ref g.C) name = some (some (.ref fa))
  ht : typeIn g.K (.ref fa) = some (.type "function")
  kp : keepIn g.K (.ref fa) = true
  nl : ("labels" : Str) ≠ name
theorem Ev.meth {o e : Expr} {es : List Expr} {name : Str} {apos pos : Pos} {fa : Addr} {ls : List (List UInt8)} {ds : List V} {r : Res} (ok : FmOk g f n) (hM : MethK g name fa) (hm : m ≤ n)
    (ho : Ev g f ρ o (.ok (.name ls))) (ha : Evs g f ρ (e :: es) (.ok ds)) (hf : Fn g m (.ref fa) (.name ls :: ds) r)
    (hb : attributeBase o name f.env (eval o f.env) = eval o f.env := by rfl) (hfew : methodCallForm ((e :: es).length + 0) (backTo pos (starEach (e :: es) f.env)) [] = true := by rfl) (hline : (apos.endLine == pos.line) = true := by rfl)
    (hh : starEach (e :: es) f.env = (false, eval e f.env) :: starEach es f.env := by rfl) (hplain : (backTo pos (starEach es f.env)).any (·.1) = false := by rfl) :
    Ev g f ρ (.Call (.Attribute o name apos) (e :: es) [] pos) r := fun σ s Q E S q ex => by
  rw [meth_eq hb hfew hline]
  refine wpAny_bind (ho σ s _ _ S (fun v d h₁ t₁ ed k₁ r₁ => ?_) fun c e' h' tk ec => nomatch ec)
  injection ed with ed; subst ed
  have S₁ := S.mono ok k₁
  obtain ⟨x, dx, t, hs, tk, nn, rfl, I, _⟩ := name_inst r₁
  have X : g.K.In h₁ := ok.G.X.keeps S₁.cs.keep
  refine wpAny_bind (wpAny_standAt (wpAny_bind (wpAny_holding (method_fn (s := { s with heap := h₁, toks := t₁ }) X I hM.ga hM.gx hM.hf hM.ht ?_ ?_))))
  · unfold shadowIn lookIn
    have : ((Value.str "labels" tk).isStr name) = false := by simpa [Value.isStr] using hM.nl
    simp [this, DictEntry.refKey]
  · exact call_evs (s := { s with heap := h₁, toks := t₁ }) (dfirst := [.name ls]) (first := [.ref x]) ok hm (.inr hM.kp) S₁ (by simp only [RepL]; exact ⟨_, _, rfl, r₁, rfl⟩) hh hplain ha hf
      (fun v d h' tk e k rep => q v d h' tk e (k₁.trans k) rep) fun c e' h' tk e fl => ex c e' h' tk e (fl.trans k₁)
theorem Ev.meth0 {o : Expr} {name : Str} {apos pos : Pos} {fa : Addr} {ls : List (List UInt8)} {r : Res} (ok : FmOk g f n) (hM : MethK g name fa) (hm : m ≤ n)
    (ho : Ev g f ρ o (.ok (.name ls))) (hf : Fn g m (.ref fa) [.name ls] r)
    (hb : attributeBase o name f.env (eval o f.env) = eval o f.env := by rfl) (hline : (apos.endLine == pos.line) = true := by rfl) :
    Ev g f ρ (.Call (.Attribute o name apos) [] [] pos) r := fun σ s Q E S q ex => by
  rw [meth_eq hb rfl hline]
  refine wpAny_bind (ho σ s _ _ S (fun v d h₁ t₁ ed k₁ r₁ => ?_) fun c e' h' tk ec => nomatch ec)
  injection ed with ed; subst ed
  have S₁ := S.mono ok k₁
  obtain ⟨x, dx, t, hs, tk, nn, rfl, I, _⟩ := name_inst r₁
  have X : g.K.In h₁ := ok.G.X.keeps S₁.cs.keep
  refine wpAny_bind (wpAny_standAt (wpAny_bind (wpAny_holding (method_fn (s := { s with heap := h₁, toks := t₁ }) X I hM.ga hM.gx hM.hf hM.ht ?_ ?_))))
  · unfold shadowIn lookIn
    have : ((Value.str "labels" tk).isStr name) = false := by simpa [Value.isStr] using hM.nl
    simp [this, DictEntry.refKey]
  · exact call_evs0 (s := { s with heap := h₁, toks := t₁ }) (dfirst := [.name ls]) (first := [.ref x]) ok hm (.inr hM.kp) S₁ (by simp only [RepL]; exact ⟨_, _, rfl, r₁, rfl⟩) hf
      (fun v d h' tk e k rep => q v d h' tk e (k₁.trans k) rep) fun c e' h' tk e fl => ex c e' h' tk e (fl.trans k₁)
structure LabK (g : GI) : Prop where
  ga : findIn g.K (.ref g.C) "__getattribute__" = some (some (.builtin "object.__getattribute__"))
  hd : hasDictIn g.K g.C = true
  ha : findIn g.K (.ref g.C) "labels" = some none
theorem Ev.labels {o : Expr} {pos : Pos} {ls : List (List UInt8)} (ok : FmOk g f n) (hK : LabK g) (ho : Ev g f ρ o (.ok (.name ls)))
    (he : eval (.Attribute o "labels" pos) f.env = (do
      let o' ← eval o f.env
      standAt pos.atName
      let r ← holding [o'] (getAttr o' "labels" true)
      letTemporaryGo o o' r
      pure r) := by rfl) : Ev g f ρ (.Attribute o "labels" pos) (.ok (.tup (ls.map .bytes))) := fun σ s Q E S q ex => by
  refine PyProof.Rows.Attribute_any_ (ho σ s _ _ S (fun v d h₁ t₁ ed k₁ r₁ => ?_) fun c e' h' tk ec => nomatch ec) he
  injection ed with ed; subst ed
  have S₁ := S.mono ok k₁
  obtain ⟨x, dx, t, hs, tk, nn, rfl, I, rt⟩ := name_inst r₁
  have X : g.K.In h₁ := ok.G.X.keeps S₁.cs.keep
  refine get_value (s := { s with heap := h₁, toks := t₁ }) X I hK.ga (findObj_own (v := .ref t) (attr := none) hK.hd hK.ha rfl ?_) rfl ?_
  · unfold lookIn
    simp [Value.isStr]
  · exact q _ _ h₁ _ rfl k₁ rt
end
section
variable {g : GI} {f : Fm} {n : Nat} {ρ : En}
theorem nodup_ne {xs : List Str} (hn : xs.Nodup) {i j : Nat} {x y : Str} (hi : xs[i]? = some x) (hj : xs[j]? = some y) (h : i ≠ j) : x ≠ y := by
  intro e
  subst e
  obtain ⟨h1, e1⟩ := List.getElem?_eq_some_iff.mp hi
  obtain ⟨h2, e2⟩ := List.getElem?_eq_some_iff.mp hj
  exact h ((List.getElem_inj hn).mp (e1.trans e2.symm))
theorem set_get {ρ : En} {i j : Nat} {b : B} {c : Option B} (h : (ρ.set i c)[j]? = some (some b)) : (j = i ∧ c = some b) ∨ (j ≠ i ∧ ρ[j]? = some (some b)) := by
  rw [List.getElem?_set] at h
  split at h
  · rename_i e
    split at h
    · exact .inl ⟨e.symm, Option.some.inj h⟩
    · cases h
  · rename_i e; exact .inr ⟨fun q => e q.symm, h⟩
theorem kE_same {f : Fm} {h h' : Heap} (nl : f.hE.get? f.L = none) (kE : Kf (fsOf f.outer) f.hE h) (hs : Heap.SameBut f.L h h') : Kf (fsOf f.outer) f.hE h' := fun b o e => by
  have hb : b ≠ f.L := fun z => by rw [z, nl] at e; cases e
  rw [hs.2 b hb]
  exact kE b o e
theorem cs_same {g : GI} {l : List Env} {L : Addr} {h h' : Heap} (n0 : g.H0.get? L = none) (hl : ∀ b ∈ fsOf l, b ≠ L) (c : CallSt g l h) (hs : Heap.SameBut L h h') : CallSt g l h' := by
  refine ⟨fun b o e => (hs.2 b fun z => by rw [z, n0] at e; cases e).trans (c.keep b o e), ?_⟩
  have hf := c.ff
  have k : ∀ b ∈ fsOf l, h'.get? b = h.get? b := fun b hb => hs.2 b (hl b hb)
  clear c
  unfold fsOf at k
  induction l with
  | nil => trivial
  | cons env r ih =>
    obtain ⟨a1, ⟨L', o, q1, q2, q3, q4⟩, a3⟩ := hf
    have sub : ∀ b ∈ r.filterMap (·.frame), b ∈ (env :: r).filterMap (·.frame) := fun b hb => by
      rw [List.filterMap_cons, q1]; exact .tail _ hb
    refine ⟨a1, ⟨L', o, q1, q2, ?_, q4⟩, ih (fun b hb => hl b (by unfold fsOf; exact sub b hb)) a3 fun b hb => k b (sub b hb)⟩
    rw [k L' (by rw [List.filterMap_cons, q1]; exact .head _)]
    exact q3
theorem outer_ne {g : GI} {f : Fm} {n : Nat} (ok : FmOk g f n) : ∀ b ∈ fsOf f.outer, b ≠ f.L := fun b hb z => by
  obtain ⟨o, e, _⟩ := (ok.csE.ff.mem hb).2
  rw [z, ok.newL] at e; cases e
theorem VarOk.step {h h' : Heap} {X X' : Addr → Prop} {m m' : Str → Option Value} {a : Addr} {x : Str} {b : B} (v : VarOk g f h X m a x b) (k : KX X h h') (hX : ∀ b, X' b → X b ∨ h.get? b = none) (hm : m' x = m x)
    (ka : b.owns = true → ∀ o, h.get? a = some o → h'.get? a = some o) : VarOk g f h' X' m' a x b := by
  cases b with
  | sh d => obtain ⟨v, e, r⟩ := v; exact ⟨v, hm.trans e, r.mono k hX⟩
  | li ds => obtain ⟨e, vs, n, e1, e4, e5⟩ := v; exact ⟨hm.trans e, vs, n, ka rfl _ e1, e4.mono k hX, e5⟩
  | ba bs => obtain ⟨e, e1, e2⟩ := v; exact ⟨hm.trans e, e1, ka rfl _ e2⟩
  | bo ds => obtain ⟨a', vs, n, e, e0, e1, e4, e5⟩ := v; exact ⟨a', vs, n, hm.trans e, e0, e1, e4.mono k hX, e5⟩
  | ce d =>
    obtain ⟨e, c⟩ := v
    cases d with
    | none => obtain ⟨o, e1, e2⟩ := c; exact ⟨e, o, ka rfl _ e1, e2⟩
    | some d => obtain ⟨v, ⟨o, e1, e2⟩, r⟩ := c; exact ⟨e, v, ⟨o, ka rfl _ e1, e2⟩, r.mono k hX⟩
  | bc d => obtain ⟨c, v, e, e0, e1, r⟩ := v; exact ⟨c, v, e, e0, e1, r.mono k hX⟩
  | me o => obtain ⟨e0, e, e1, e2, e3⟩ := v; exact ⟨e0, hm.trans e, k _ _ e1 e2, fun q => (hX _ q).elim e2 fun z => (by rw [e1] at z; cases z), e3.mono k hX (ka rfl)⟩
theorem store_any {x : Str} {i : Nat} {v : Value} {b : B} {σ σ' : Sp} {h0 : Heap} {s : Shared} {Q : Unit → Shared → Prop} {E : Value → Shared → Prop} (ok : FmOk g f n) (S : St g f σ ρ h0) (k : Kf f.fs h0 s.heap) (hx : f.xs[i]? = some x)
    (hα : ∀ j, j ≠ i → σ'.α j = σ.α j) (hY : σ'.Y = σ.Y)
    (hown : b.owns = true → (f.hE.get? (σ'.α i) = none ∧ σ'.α i ≠ f.L ∧ g.H0.get? (σ'.α i) = none) ∧ h0.get? (σ'.α i) = none)
    (hv : ∀ h' m, (∀ b o, b ≠ f.L → s.heap.get? b = some o → h'.get? b = some o) → m x = some v → VarOk g f h' (XOf f σ' (ρ.set i (some b))) m (σ'.α i) x b)
    (h : ∀ h', St g f σ' (ρ.set i (some b)) h' → Trn f σ ρ h0 σ' (ρ.set i (some b)) h' → Q () { s with heap := h', toks := s.toks + 1 }) : wpAny (model g.prog g.w) f.A (storeName f.env x v) Q E s := by
  have S₁ := S.mono ok k
  obtain ⟨m, hns, hvar⟩ := S.ex
  have hx' := List.mem_of_getElem? hx
  have hx := Fm.nmx hx
  have ownSet : ∀ {j}, Own (ρ.set i (some b)) j → (j = i ∧ b.owns = true) ∨ (j ≠ i ∧ Own ρ j) := fun {j} hj => by
    obtain ⟨b', hb, ho⟩ := hj
    rcases set_get hb with ⟨e, e'⟩ | ⟨e, e'⟩
    · injection e' with e'; subst e'; exact .inl ⟨e, ho⟩
    · exact .inr ⟨e, b', e', ho⟩
  have ownThere : ∀ {j}, Own ρ j → ∃ o, h0.get? (σ.α j) = some o := fun {j} hj => by
    obtain ⟨b', hb, ho⟩ := hj
    have hl : j < f.nm.length := Nat.lt_of_lt_of_le (List.getElem?_eq_some_iff.mp hb).1 S.len
    exact (hvar j _ b' (List.getElem?_eq_getElem hl) hb).there ho
  refine wpAny_storeName_local (ok.loc x hx') (k.ns hns) (fun h' hns' hs => h h' ?_ ?_) (by rw [ok.kind]; rfl)
  rotate_left
  · have hs' : Heap.SameBut f.L s.heap h' := hs
    refine ⟨fun c o hc hf _ => (hs'.2 c fun z => hf (by rw [z, Fm.fs_eq]; exact .head _)).trans ((k c o hc).1 hf), fun c o hc hf => ?_, fun c hc => ?_, hY⟩
    · by_cases z : c = f.L
      · subst z; obtain ⟨o', _, _, e', _⟩ := hns'; exact ⟨o', e'⟩
      · obtain ⟨_, q⟩ := (k c o hc).2; exact ⟨_, (hs'.2 c z).trans q⟩
    · obtain ⟨l, hl, hc⟩ := hc
      rcases ownSet hl with ⟨rfl, ho⟩ | ⟨hne, ho⟩
      · right; rw [hc]; exact (hown ho).2
      · left; exact ⟨l, ho, by rw [hc, hα l hne]⟩
  have hs' : Heap.SameBut f.L s.heap h' := hs
  refine ⟨⟨_, hns', fun j y b' hy hb => ?_⟩, cs_same ok.newL0 (outer_ne ok) S₁.cs hs', kE_same ok.newL S₁.kE hs', ?_, ?_, by rw [List.length_set]; exact S.len, by rw [hY]; exact S.Yfs, fun c hc => ?_, fun j hj m => ?_, by rw [hY]; exact S.Y0⟩
  rotate_right
  · rw [hY] at m
    rcases ownSet hj with ⟨rfl, ho⟩ | ⟨hne, ho⟩
    · obtain ⟨o, e⟩ := S.Yex _ m; rw [(hown ho).2] at e; cases e
    · rw [hα j hne] at m; exact S.offY j ho m
  rotate_right
  · rw [hY] at hc
    obtain ⟨o, e⟩ := S₁.Yex c hc
    by_cases z : c = f.L
    · subst z; obtain ⟨o', _, _, e', _⟩ := hns'; exact ⟨o', e'⟩
    · exact ⟨o, (hs'.2 c z).trans e⟩
  · rcases set_get hb with ⟨e, e'⟩ | ⟨e, e'⟩
    · subst e
      injection e' with e'; subst e'
      rw [hx] at hy; injection hy with hy; subst hy
      exact hv h' _ (fun c o hc ho => (hs'.2 c hc).trans ho) (by simp)
    · rw [hα j e]
      refine (hvar j y b' hy e').step (fun c o hc hX => ?_) (fun c hc => ?_) (by simp [nodup_ne ok.nodup hy hx e]) fun ho o hc => ?_
      · have h1 := (k c o hc).1 fun m => hX (S.fsX c m)
        exact (hs'.2 c fun z => hX (.inr (.inl z))).trans h1
      · rcases hc with hc | hc | ⟨l, hl, hc⟩
        · exact .inl (.inl (hY ▸ hc))
        · exact .inl (.inr (.inl hc))
        · rcases ownSet hl with ⟨rfl, ho⟩ | ⟨hne, ho⟩
          · right; rw [hc]; exact (hown ho).2
          · left; right; right; exact ⟨l, ho, by rw [hc, hα l hne]⟩
      · have fr := S.fresh j ⟨b', e', ho⟩
        have h1 := (k _ o hc).1 (own_off ok fr.1 fr.2.1)
        exact (hs'.2 _ fr.2.1).trans h1
  · intro j l hj hl e
    rcases ownSet hj with ⟨rfl, ho⟩ | ⟨hne, ho⟩
    · rcases ownSet hl with ⟨rfl, ho'⟩ | ⟨hne', ho'⟩
      · rfl
      · obtain ⟨o, q⟩ := ownThere ho'
        rw [hα l hne'] at e
        rw [← e, (hown ho).2] at q; cases q
    · rcases ownSet hl with ⟨rfl, ho'⟩ | ⟨hne', ho'⟩
      · obtain ⟨o, q⟩ := ownThere ho
        rw [hα j hne] at e
        rw [e, (hown ho').2] at q; cases q
      · rw [hα j hne, hα l hne'] at e
        exact S.inj j l ho ho' e
  · intro j hj
    rcases ownSet hj with ⟨rfl, ho⟩ | ⟨hne, ho⟩
    · exact (hown ho).1
    · rw [hα j hne]; exact S.fresh j ho
theorem store_sh {x : Str} {i : Nat} {v : Value} {d : V} {σ : Sp} {s : Shared} {Q : Unit → Shared → Prop} {E : Value → Shared → Prop} (ok : FmOk g f n) (S : St g f σ ρ s.heap) (hx : f.xs[i]? = some x)
    (r : Rep g.C s.heap (XOf f σ ρ) d v) (h : ∀ h' tk, St g f σ (ρ.set i (some (.sh d))) h' → Trn f σ ρ s.heap σ (ρ.set i (some (.sh d))) h' → Q () { s with heap := h', toks := tk }) : wpAny (model g.prog g.w) f.A (storeName f.env x v) Q E s := by
  refine store_any (b := .sh d) (σ' := σ) ok S (Kf.refl _ _) hx (fun _ _ => rfl) rfl (fun q => nomatch q) (fun h' m k e => ⟨v, e, ?_⟩) fun h' S' T' => h h' _ S' T'
  refine r.mono (fun b o e hb => k b o (fun z => hb (.inr (.inl z))) e) fun b hb => .inl ?_
  rcases hb with hb | hb | ⟨j, ⟨b', hb', ho⟩, hb⟩
  · exact .inl hb
  · exact .inr (.inl hb)
  · rcases set_get hb' with ⟨_, e'⟩ | ⟨_, e'⟩
    · injection e' with e'; subst e'; cases ho
    · exact .inr (.inr ⟨j, ⟨b', e', ho⟩, hb⟩)
theorem Ex.nil {O : Out → Prop} (h : O (.next ρ)) : Ex g f ρ [] O := fun σ s Q E S q ex =>
  wpAny_execs_nil (q .next (.next ρ) s.heap s.toks h ⟨rfl, σ, S, Trn.refl ..⟩)
theorem ret_ok {σ : Sp} {h' : Heap} {d : V} {v : Value} (S : St g f σ ρ h') (r : Rep g.C h' (XOf f σ ρ) d v) : RetOk g f σ.Y h' d v :=
  ⟨S.cs, S.kE, r.weak fun b hb => .inl hb⟩
theorem Ex.ret {e : Expr} {pos : Pos} {rest : List Stmt} {r : Res} {O : Out → Prop} (ok : FmOk g f n) (he : Ev g f ρ e r) (h : ∀ d, r = .ok d → O (.ret d)) (hc : ∀ c, r = .exc c → O (.exc c ρ)) : Ex g f ρ (.Return (some e) pos :: rest) O := fun σ s Q E S q ex => by
  refine wpAny_execs_cons (wpAny_Return_some (he σ s _ _ S (fun v d h' tk er k rep => ?_) fun c e' h' tk er fl => ?_))
  · exact q (.ret v) (.ret d) h' tk (h d er) ⟨v, rfl, ret_ok (S.mono ok k) rep⟩
  · exact ex c ρ e' h' tk (hc c er) ⟨σ, s.heap, S, Trn.refl .., .inl fl⟩
theorem Ex.brk {pos : Pos} {rest : List Stmt} {O : Out → Prop} (h : O (.brk ρ)) : Ex g f ρ (.Break pos :: rest) O := fun σ s Q E S q ex =>
  wpAny_execs_cons (wpAny_Break (q .brk (.brk ρ) s.heap s.toks h ⟨rfl, σ, S, Trn.refl ..⟩))
theorem Ex.assign {x : Str} {xp pos : Pos} {e : Expr} {rest : List Stmt} {d : V} {O : Out → Prop} (ok : FmOk g f n) (i : Nat) (hx : f.xs[i]? = some x) (he : Ev g f ρ e (.ok d)) (h : Ex g f (ρ.set i (some (.sh d))) rest O)
    (hs : swapsWith e (some (.Name x xp)) pos.line f.env = pure false := by rfl) : Ex g f ρ (.Assign [.Name x xp] e pos :: rest) O := fun σ s Q E S q ex => by
  refine wpAny_execs_cons (wpAny_Assign_Name (he σ s _ _ S (fun v d' h' tk er k rep => ?_) fun c e' h' tk er fl => nomatch er) hs)
  injection er with er; subst er
  exact store_sh (s := { s with heap := h', toks := tk }) ok (S.mono ok k) hx rep fun h'' tk' S' T' => Ex.after (σ := σ) (ρ := ρ) (s := s) h S' ((k.trn).trans T') q ex
theorem Ex.assignR {x : Str} {xp pos : Pos} {e : Expr} {rest : List Stmt} {r : Res} {O : Out → Prop} (ok : FmOk g f n) (i : Nat) (hx : f.xs[i]? = some x) (he : Ev g f ρ e r) (h : ∀ d, r = .ok d → Ex g f (ρ.set i (some (.sh d))) rest O) (hc : ∀ c, r = .exc c → O (.exc c ρ))
    (hs : swapsWith e (some (.Name x xp)) pos.line f.env = pure false := by rfl) : Ex g f ρ (.Assign [.Name x xp] e pos :: rest) O := fun σ s Q E S q ex => by
  refine wpAny_execs_cons (wpAny_Assign_Name (he σ s _ _ S (fun v d h' tk er k rep => ?_) fun c e' h' tk er fl => ?_) hs)
  · exact store_sh (s := { s with heap := h', toks := tk }) ok (S.mono ok k) hx rep fun h'' tk' S' T' => Ex.after (σ := σ) (ρ := ρ) (s := s) (h d er) S' ((k.trn).trans T') q ex
  · exact ex c ρ e' h' tk (hc c er) ⟨σ, s.heap, S, Trn.refl .., .inl fl⟩
def Weak (ρ ρ' : En) : Prop := ρ'.length ≤ ρ.length ∧ ∀ (i : Nat) (b : B), ρ'[i]? = some (some b) → ρ[i]? = some (some b)
theorem Weak.refl (ρ : En) : Weak ρ ρ := ⟨Nat.le_refl _, fun _ _ h => h⟩
theorem Weak.nil : Weak [] [] := Weak.refl _
theorem Weak.keep {b : Option B} {ρ ρ' : En} (w : Weak ρ ρ') : Weak (b :: ρ) (b :: ρ') := ⟨Nat.succ_le_succ w.1, fun i c h => by
  cases i with
  | zero => simpa using h
  | succ i => simp at h ⊢; exact w.2 i c h⟩
theorem Weak.drop {b : Option B} {ρ ρ' : En} (w : Weak ρ ρ') : Weak (b :: ρ) (none :: ρ') := ⟨Nat.succ_le_succ w.1, fun i c h => by
  cases i with
  | zero => simp at h
  | succ i => simp at h ⊢; exact w.2 i c h⟩
theorem Weak.own {ρ ρ' : En} (w : Weak ρ ρ') {i : Nat} (h : Own ρ' i) : Own ρ i := let ⟨b, hb, ho⟩ := h; ⟨b, w.2 i b hb, ho⟩
theorem Weak.ownA {ρ' : En} (w : Weak ρ ρ') {σ : Sp} {a : Addr} (ha : OwnA σ ρ' a) : OwnA σ ρ a := let ⟨j, hj, e⟩ := ha; ⟨j, w.own hj, e⟩
theorem Weak.sub {ρ' : En} (w : Weak ρ ρ') {σ : Sp} {a : Addr} (ha : XOf f σ ρ' a) : XOf f σ ρ a := by
  rcases ha with ha | ha | ha
  · exact .inl ha
  · exact .inr (.inl ha)
  · exact .inr (.inr (w.ownA ha))
theorem St.weak {σ : Sp} {ρ' : En} {h : Heap} (S : St g f σ ρ h) (w : Weak ρ ρ') : St g f σ ρ' h := by
  obtain ⟨⟨m, hns, hv⟩, c, kE, nd, fr, len, Yfs, Yex, offY, Y0⟩ := S
  exact ⟨⟨m, hns, fun i x b hx hb => (hv i x b hx (w.2 i b hb)).step (KX.refl _ _) (fun a ha => .inl (w.sub ha)) rfl fun _ _ e => e⟩, c, kE, fun i j hi hj => nd i j (w.own hi) (w.own hj), fun i hi => fr i (w.own hi), Nat.le_trans w.1 len, Yfs, Yex, fun i hi => offY i (w.own hi), Y0⟩
theorem Weak.trn {ρ' : En} (w : Weak ρ ρ') (σ : Sp) (h : Heap) : Trn f σ ρ h σ ρ' h := ⟨fun _ _ e _ _ => e, fun _ o e _ => ⟨o, e⟩, fun _ hb => .inl (w.ownA hb), rfl⟩
theorem Ex.weak {ρ' : En} {b : List Stmt} {O : Out → Prop} (w : Weak ρ ρ') (h : Ex g f ρ' b O) : Ex g f ρ b O := fun σ s Q E S q ex => h.after (S.weak w) (w.trn σ s.heap) q ex
theorem exec_of_execs {M : Model} {A : Around} {st : Stmt} {env : Env} {Q : Flow → Shared → Prop} {E : Value → Shared → Prop} {s : Shared} (h : wpAny M A (execs [st] env) Q E s) : wpAny M A (exec st env) Q E s := fun Γ p hΓ => by
  have := h Γ p hΓ
  rw [execs_cons, Sem.wp_bind'] at this
  exact Sem.wp_mono M Γ _ (fun fl p' s' h' => by cases fl <;> exact h') (fun _ _ _ h' => h') p s this
theorem Ex.seq {st : Stmt} {rest : List Stmt} {O₁ O : Out → Prop} (h : Ex g f ρ [st] O₁) (hn : ∀ ρ', O₁ (.next ρ') → Ex g f ρ' rest O) (ho : ∀ o, O₁ o → (∀ ρ', o ≠ .next ρ') → O o) : Ex g f ρ (st :: rest) O := fun σ s Q E S q ex => by
  have h1 := h σ s (fun fl s' => match fl with | .next => wpAny (model g.prog g.w) f.A (execs rest f.env) Q E s' | fl => Q fl s') E S (fun fl o h' tk o1 ok1 => by
      cases o with
      | next ρ' => obtain ⟨rfl, σ', S', T'⟩ := ok1; exact (hn ρ' o1).after S' T' q ex
      | brk ρ' => obtain ⟨rfl, z⟩ := ok1; exact q _ _ h' tk (ho _ o1 fun _ e => nomatch e) ⟨rfl, z⟩
      | cont ρ' => obtain ⟨rfl, z⟩ := ok1; exact q _ _ h' tk (ho _ o1 fun _ e => nomatch e) ⟨rfl, z⟩
      | ret d => obtain ⟨v, rfl, z⟩ := ok1; exact q _ _ h' tk (ho _ o1 fun _ e => nomatch e) ⟨v, rfl, z⟩
      | exc _ _ => exact ok1.elim) (fun c ρ' e h' tk o1 x => ex c ρ' e h' tk (ho _ o1 fun _ e => nomatch e) x)
  exact wpAny_execs_cons (exec_of_execs h1)
end
def Op2 (g : GI) (n : Nat) (t : Value → Value → Sem Value) (a b : V) (r : Res) : Prop :=
  ∀ (f : Fm) (ρ : En) (σ : Sp) (s : Shared) (Q : Value → Shared → Prop) (E : Value → Shared → Prop) (va vb : Value), FmOk g f n → St g f σ ρ s.heap →
    Rep g.C s.heap (XOf f σ ρ) a va → Rep g.C s.heap (XOf f σ ρ) b vb →
    (∀ v d h' tk, r = .ok d → Kf f.fs s.heap h' → Rep g.C h' (XOf f σ ρ) d v → Q v { s with heap := h', toks := tk }) →
    (∀ c e' h' tk, r = .exc c → Fly f s.heap h' e' c → E (.ref e') { s with heap := h', toks := tk }) →
    wpAny (model g.prog g.w) f.A (t va vb) Q E s
def Te (g : GI) (f : Fm) (ρ : En) (e : Expr) (b : Bool) : Prop :=
  ∀ σ (s : Shared) (Q : Bool → Shared → Prop) (E : Value → Shared → Prop), St g f σ ρ s.heap →
    (∀ h' tk, Kf f.fs s.heap h' → Q b { s with heap := h', toks := tk }) →
    wpAny (model g.prog g.w) f.A (isTrue e f.env (eval e f.env)) Q E s
section
variable {g : GI} {f : Fm} {n : Nat} {ρ : En}
theorem rmono {σ : Sp} {h₀ h h' : Heap} {d : V} {v : Value} (S : St g f σ ρ h₀) (r : Rep g.C h (XOf f σ ρ) d v) (k : Kf f.fs h h') : Rep g.C h' (XOf f σ ρ) d v :=
  r.mono (k.kx S.fsX) fun b m => .inl m
theorem Ev.bin {l r : Expr} {op : Operator} {pos : Pos} {a b : V} {c : Res} (ok : FmOk g f n) (hl : Ev g f ρ l (.ok a)) (hr : Ev g f ρ r (.ok b)) (ho : Op2 g n (binaryOp op) a b c) : Ev g f ρ (.BinOp l op r pos) c := fun σ s Q E S q ex => by
  refine wpAny_BinOp (hl σ s _ _ S (fun v d h₁ t₁ e k₁ r₁ => ?_) fun c e' h' tk ec => nomatch ec)
  injection e with e; subst e
  refine hr σ _ _ _ (S.mono ok k₁) (fun u d h₂ t₂ e k₂ r₂ => ?_) fun c e' h' tk ec => nomatch ec
  injection e with e; subst e
  exact ho f ρ σ { s with heap := h₂, toks := t₂ } Q E v u ok (S.mono ok (k₁.trans k₂)) (rmono S r₁ k₂) r₂ (fun v d h' tk e k r => q v d h' tk e ((k₁.trans k₂).trans k) r)
    fun c e' h' tk e fl => ex c e' h' tk e (fl.trans (k₁.trans k₂))
theorem Ev.cmp {l r : Expr} {op : CmpOp} {pos : Pos} {a b : V} {c : Res} (ok : FmOk g f n) (hl : Ev g f ρ l (.ok a)) (hr : Ev g f ρ r (.ok b)) (ho : Op2 g n (compareOp op) a b c) (hm : behindInMarks op r = false := by rfl) :
    Ev g f ρ (.Compare l [op] [r] pos) c := fun σ s Q E S q ex => by
  refine wpAny_Compare1 (hl σ s _ _ S (fun v d h₁ t₁ e k₁ r₁ => ?_) fun c e' h' tk ec => nomatch ec) hm
  injection e with e; subst e
  refine hr σ _ _ _ (S.mono ok k₁) (fun u d h₂ t₂ e k₂ r₂ => ?_) fun c e' h' tk ec => nomatch ec
  injection e with e; subst e
  exact ho f ρ σ { s with heap := h₂, toks := t₂ } Q E v u ok (S.mono ok (k₁.trans k₂)) (rmono S r₁ k₂) r₂ (fun v d h' tk e k r => q v d h' tk e ((k₁.trans k₂).trans k) r)
    fun c e' h' tk e fl => ex c e' h' tk e (fl.trans (k₁.trans k₂))
theorem Te.cmp {l r : Expr} {op : CmpOp} {pos : Pos} {a b : V} {c : Bool} (ok : FmOk g f n) (hl : Ev g f ρ l (.ok a)) (hr : Ev g f ρ r (.ok b)) (ho : Op2 g n (compareOp op) a b (.ok (.bool c))) (hm : behindInMarks op r = false := by rfl) :
    Te g f ρ (.Compare l [op] [r] pos) c := fun σ s Q E S q => by
  refine wpAny_isTrue_Compare1 (hl σ s _ _ S (fun v d h₁ t₁ e k₁ r₁ => ?_) fun c e' h' tk ec => nomatch ec) hm
  injection e with e; subst e
  refine hr σ _ _ _ (S.mono ok k₁) (fun u d h₂ t₂ e k₂ r₂ => ?_) fun c e' h' tk ec => nomatch ec
  injection e with e; subst e
  refine ho f ρ σ { s with heap := h₂, toks := t₂ } _ E v u ok (S.mono ok (k₁.trans k₂)) (rmono S r₁ k₂) r₂ (fun v d h' tk e k r => ?_) fun c e' h' tk ec => nomatch ec
  injection e with e; subst e
  simp only [Rep] at r; subst r
  exact wpAny_truthy_bool (q h' tk ((k₁.trans k₂).trans k))
theorem Te.not {x : Expr} {pos : Pos} {b : Bool} (hx : Te g f ρ x b) : Te g f ρ (.UnaryOp .Not x pos) (!b) := fun σ s Q E S q => wpAny_isTrue_Not (hx σ s _ E S q)
theorem Te.val {e : Expr} {b : Bool} (he : Ev g f ρ e (.ok (.bool b))) (h : ∀ whole, isTrue e f.env whole = (do let v ← whole; standAt e.pos; holding [v] (truthy v)) := by intro _; rfl) : Te g f ρ e b := fun σ s Q E S q =>
  wpAny_isTrue_value (he σ s _ _ S (fun v d h' tk ed k r => by
    injection ed with ed; subst ed
    simp only [Rep] at r; subst r
    exact wpAny_truthy_bool (q h' tk k)) fun c e' h' tk ec => nomatch ec) (h _)
def TAll (g : GI) (f : Fm) (ρ : En) (op : BoolOp) (es : List Expr) (b : Bool) : Prop :=
  ∀ σ (s : Shared) (Q : Bool → Shared → Prop) (E : Value → Shared → Prop), St g f σ ρ s.heap →
    (∀ h' tk, Kf f.fs s.heap h' → Q b { s with heap := h', toks := tk }) → wpAny (model g.prog g.w) f.A (allTrue op es f.env) Q E s
theorem TAll.and_nil : TAll g f ρ .And [] true := fun σ s Q E S q => wpAny_allTrue_And_nil (q s.heap s.toks (Kf.refl _ _))
theorem TAll.or_nil : TAll g f ρ .Or [] false := fun σ s Q E S q => wpAny_allTrue_Or_nil (q s.heap s.toks (Kf.refl _ _))
theorem TAll.and_cons {x : Expr} {es : List Expr} {a b : Bool} (ok : FmOk g f n) (hx : Te g f ρ x a) (he : a = true → TAll g f ρ .And es b) : TAll g f ρ .And (x :: es) (a && b) := fun σ s Q E S q => by
  refine wpAny_allTrue_And_cons (hx σ s _ E S fun h' tk k => ?_)
  cases a with
  | true => simp only [if_true]; exact he rfl σ _ _ E (S.mono ok k) fun h'' tk' k' => q h'' tk' (k.trans k')
  | false => simp only [Bool.false_eq_true, if_false]; exact q h' tk k
theorem TAll.or_cons {x : Expr} {es : List Expr} {a b : Bool} (ok : FmOk g f n) (hx : Te g f ρ x a) (he : a = false → TAll g f ρ .Or es b) : TAll g f ρ .Or (x :: es) (a || b) := fun σ s Q E S q => by
  refine wpAny_allTrue_Or_cons (hx σ s _ E S fun h' tk k => ?_)
  cases a with
  | true => simp only [if_true]; exact q h' tk k
  | false => simp only [Bool.false_eq_true, if_false]; exact he rfl σ _ _ E (S.mono ok k) fun h'' tk' k' => q h'' tk' (k.trans k')
theorem Te.bool {op : BoolOp} {es : List Expr} {pos : Pos} {b : Bool} (h : TAll g f ρ op es b) : Te g f ρ (.BoolOp op es pos) b := fun σ s Q E S q => wpAny_isTrue_BoolOp (h σ s Q E S q)
theorem Te.chain {l r₁ r₂ : Expr} {o₁ o₂ : CmpOp} {pos : Pos} {a b c : V} {p q : Bool} (ok : FmOk g f n) (hl : Ev g f ρ l (.ok a)) (h1 : Ev g f ρ r₁ (.ok b)) (h2 : p = true → Ev g f ρ r₂ (.ok c)) (c1 : Op2 g n (compareOp o₁) a b (.ok (.bool p)))
    (c2 : p = true → Op2 g n (compareOp o₂) b c (.ok (.bool q))) (hm : lastMarks [o₁, o₂] [r₁, r₂] = false := by rfl) : Te g f ρ (.Compare l [o₁, o₂] [r₁, r₂] pos) (p && q) := fun σ s Q E S qq => by
  refine isTrue_chain (hl σ s _ _ S (fun v d h₁ t₁ e k₁ rv => ?_) fun c e' h' tk ec => nomatch ec) hm
  injection e with e; subst e
  show wpAny _ _ (do
    let rv ← holding [v] (eval r₁ f.env)
    standAt pos
    let c ← holding [v, rv] (compareOp o₁ v rv)
    release [v, rv] [c]
    if ← holding [c, rv] (truthy c) then testChain pos rv [o₂] [eval r₂ f.env] else pure false) _ _ _
  refine wpAny_bind (wpAny_holding (h1 σ _ _ _ (S.mono ok k₁) (fun u d h₂ t₂ e k₂ ru => ?_) fun c e' h' tk ec => nomatch ec))
  injection e with e; subst e
  have k12 := k₁.trans k₂
  refine wpAny_bind (wpAny_standAt (wpAny_bind (wpAny_holding (c1 f ρ σ { s with heap := h₂, toks := t₂ } _ _ v u ok (S.mono ok k12) (rmono S rv k₂) ru (fun w d h₃ t₃ e k₃ rw' => ?_) fun c e' h' tk ec => nomatch ec))))
  injection e with e; subst e
  simp only [Rep] at rw'; subst rw'
  have k13 := k12.trans k₃
  refine wpAny_bind (wpAny_release (wpAny_bind (wpAny_holding (wpAny_truthy_bool ?_))))
  cases p with
  | false => simp only [Bool.false_eq_true, if_false]; exact wpAny_pure (qq h₃ t₃ k13)
  | true =>
    simp only [if_true]
    show wpAny _ _ (do
      let rv ← holding [u] (eval r₂ f.env)
      standAt pos
      let c ← operate [u, rv] (compareOp o₂ u rv)
      holding [c] (truthy c)) _ _ _
    refine wpAny_bind (wpAny_holding (h2 rfl σ { s with heap := h₃, toks := t₃ } _ _ (S.mono ok k13) (fun y d h₄ t₄ e k₄ ry => ?_) fun c e' h' tk ec => nomatch ec))
    injection e with e; subst e
    have k14 := k13.trans k₄
    refine wpAny_bind (wpAny_standAt (wpAny_bind (wpAny_operateT (c2 rfl f ρ σ { s with heap := h₄, toks := t₄ } _ _ u y ok (S.mono ok k14) (rmono S (rmono S ru k₃) k₄) ry (fun z d h₅ t₅ e k₅ rz => ?_) fun c e' h' tk ec => nomatch ec))))
    injection e with e; subst e
    simp only [Rep] at rz; subst rz
    exact wpAny_holding (wpAny_truthy_bool (qq h₅ t₅ (k14.trans k₅)))
theorem Ev.ite {t a b : Expr} {pos : Pos} {c : Bool} {r r' : Res} (ok : FmOk g f n) (ht : Te g f ρ t c) (ha : c = true → Ev g f ρ a r) (hb : c = false → Ev g f ρ b r') : Ev g f ρ (.IfExp t a b pos) (if c then r else r') := fun σ s Q E S q ex => by
  refine wpAny_IfExp (ht σ s _ E S fun h' tk k => ?_)
  cases c with
  | true => simp only [if_true] at q ex ⊢; exact ha rfl σ _ Q E (S.mono ok k) (fun v d h'' tk' e k' r => q v d h'' tk' e (k.trans k') r) fun c e' h'' tk' e fl => ex c e' h'' tk' e (fl.trans k)
  | false => simp only [Bool.false_eq_true, if_false] at q ex ⊢; exact hb rfl σ _ Q E (S.mono ok k) (fun v d h'' tk' e k' r => q v d h'' tk' e (k.trans k') r) fun c e' h'' tk' e fl => ex c e' h'' tk' e (fl.trans k)
theorem Ev.iteOk {t a b : Expr} {pos : Pos} {c : Bool} {d e : V} (ok : FmOk g f n) (ht : Te g f ρ t c) (ha : c = true → Ev g f ρ a (.ok d)) (hb : c = false → Ev g f ρ b (.ok e)) : Ev g f ρ (.IfExp t a b pos) (.ok (if c then d else e)) := by
  have := Ev.ite (pos := pos) ok ht ha hb
  cases c <;> exact this
def BAll (g : GI) (f : Fm) (ρ : En) (op : BoolOp) (es : List Expr) (b : Bool) : Prop :=
  ∀ pos σ (s : Shared) (Q : Value → Shared → Prop) (E : Value → Shared → Prop), St g f σ ρ s.heap →
    (∀ h' tk, Kf f.fs s.heap h' → Q (.bool b) { s with heap := h', toks := tk }) → wpAny (model g.prog g.w) f.A (boolOp pos op (evalEach es f.env)) Q E s
theorem BAll.one {op : BoolOp} {e : Expr} {b : Bool} (he : Ev g f ρ e (.ok (.bool b))) : BAll g f ρ op [e] b := fun pos σ s Q E S q => by
  show wpAny _ _ (eval e f.env) _ _ _
  refine he σ s _ _ S (fun v d h' tk ed k r => ?_) fun c e' h' tk ec => nomatch ec
  injection ed with ed; subst ed
  simp only [Rep] at r; subst r
  exact q h' tk k
theorem BAll.and_cons {x y : Expr} {es : List Expr} {a b : Bool} (ok : FmOk g f n) (hx : Ev g f ρ x (.ok (.bool a))) (he : a = true → BAll g f ρ .And (y :: es) b) : BAll g f ρ .And (x :: y :: es) (a && b) := fun pos σ s Q E S q => by
  show wpAny _ _ (do
    let v ← eval x f.env
    standAt pos
    let t ← holding [v] (truthy v)
    match BoolOp.And, t with
    | .And, false | .Or, true => pure v
    | _, _ => boolOp pos .And (evalEach (y :: es) f.env)) _ _ _
  refine wpAny_bind (hx σ s _ _ S (fun v d h' tk ed k r => ?_) fun c e' h' tk ec => nomatch ec)
  injection ed with ed; subst ed
  simp only [Rep] at r; subst r
  refine wpAny_bind (wpAny_standAt (wpAny_bind (wpAny_holding (wpAny_truthy_bool ?_))))
  cases a with
  | false => exact wpAny_pure (q h' tk k)
  | true => exact he rfl pos σ _ _ E (S.mono ok k) fun h'' tk' k' => q h'' tk' (k.trans k')
theorem BAll.or_cons {x y : Expr} {es : List Expr} {a b : Bool} (ok : FmOk g f n) (hx : Ev g f ρ x (.ok (.bool a))) (he : a = false → BAll g f ρ .Or (y :: es) b) : BAll g f ρ .Or (x :: y :: es) (a || b) := fun pos σ s Q E S q => by
  show wpAny _ _ (do
    let v ← eval x f.env
    standAt pos
    let t ← holding [v] (truthy v)
    match BoolOp.Or, t with
    | .And, false | .Or, true => pure v
    | _, _ => boolOp pos .Or (evalEach (y :: es) f.env)) _ _ _
  refine wpAny_bind (hx σ s _ _ S (fun v d h' tk ed k r => ?_) fun c e' h' tk ec => nomatch ec)
  injection ed with ed; subst ed
  simp only [Rep] at r; subst r
  refine wpAny_bind (wpAny_standAt (wpAny_bind (wpAny_holding (wpAny_truthy_bool ?_))))
  cases a with
  | true => exact wpAny_pure (q h' tk k)
  | false => exact he rfl pos σ _ _ E (S.mono ok k) fun h'' tk' k' => q h'' tk' (k.trans k')
theorem Ev.boolop {op : BoolOp} {es : List Expr} {pos : Pos} {b : Bool} (h : BAll g f ρ op es b) : Ev g f ρ (.BoolOp op es pos) (.ok (.bool b)) := fun σ s Q E S q ex => by
  show wpAny _ _ (boolOp pos op (evalEach es f.env)) _ _ _
  exact h pos σ s Q E S fun h' tk k => q _ _ h' tk rfl k (by simp only [Rep])
theorem Ex.ite {t : Expr} {a b : List Stmt} {pos : Pos} {c : Bool} {O : Out → Prop} (ok : FmOk g f n) (ht : Te g f ρ t c) (ha : c = true → Ex g f ρ a O) (hb : c = false → Ex g f ρ b O) : Ex g f ρ [.If t a b pos] O := fun σ s Q E S q ex => by
  have fin : wpAny (model g.prog g.w) f.A (exec (.If t a b pos) f.env) Q E s := by
    refine wpAny_If (ht σ s _ E S fun h' tk k => ?_)
    cases c with
    | true => simp only [if_true]; exact (ha rfl).after (S.mono ok k) (k.trn) q ex
    | false => simp only [Bool.false_eq_true, if_false]; exact (hb rfl).after (S.mono ok k) (k.trn) q ex
  refine wpAny_execs_cons (wpAny_mono fin (fun fl s' h => ?_) fun _ _ h => h)
  cases fl <;> first | exact h | exact wpAny_execs_nil h
theorem Ex.iff {t : Expr} {a b rest : List Stmt} {pos : Pos} {c : Bool} {O : Out → Prop} (ok : FmOk g f n) (ht : Te g f ρ t c) (O₁ : Out → Prop) (ha : c = true → Ex g f ρ a O₁) (hb : c = false → Ex g f ρ b O₁)
    (hn : ∀ ρ', O₁ (.next ρ') → Ex g f ρ' rest O) (ho : ∀ o, O₁ o → (∀ ρ', o ≠ .next ρ') → O o) : Ex g f ρ (.If t a b pos :: rest) O := Ex.seq (Ex.ite ok ht ha hb) hn ho
end
section
variable {g : GI} {n : Nat} {a b : Int}
theorem op2_int {t : Value → Value → Sem Value} {c : Int} (h : ∀ {A : Around} {E : Value → Shared → Prop} {s : Shared} {Q : Value → Shared → Prop} {x y : Tok}, Q (.int c s.toks) { s with toks := s.toks + 1 } → wpAny (model g.prog g.w) A (t (.int a x) (.int b y)) Q E s) :
    Op2 g n t (.int a) (.int b) (.ok (.int c)) := fun f ρ σ s Q E va vb ok S ra rb q ex => by
  simp only [Rep] at ra rb
  obtain ⟨x, rfl⟩ := ra
  obtain ⟨y, rfl⟩ := rb
  exact h (q _ _ s.heap _ rfl (Kf.refl _ _) (by simp only [Rep]; exact ⟨_, rfl⟩))
theorem op2_int_bool {t : Value → Value → Sem Value} {c : Bool} (h : ∀ {A : Around} {E : Value → Shared → Prop} {s : Shared} {Q : Value → Shared → Prop} {x y : Tok}, Q (.bool c) s → wpAny (model g.prog g.w) A (t (.int a x) (.int b y)) Q E s) :
    Op2 g n t (.int a) (.int b) (.ok (.bool c)) := fun f ρ σ s Q E va vb ok S ra rb q ex => by
  simp only [Rep] at ra rb
  obtain ⟨x, rfl⟩ := ra
  obtain ⟨y, rfl⟩ := rb
  exact h (q _ _ s.heap s.toks rfl (Kf.refl _ _) (by simp only [Rep]))
theorem Op2.add : Op2 g n (binaryOp .Add) (.int a) (.int b) (.ok (.int (a + b))) := op2_int wpAny_add_int
theorem Op2.iadd : Op2 g n (inplaceOp .Add) (.int a) (.int b) (.ok (.int (a + b))) := op2_int wpAny_iadd_int
theorem Op2.sub : Op2 g n (binaryOp .Sub) (.int a) (.int b) (.ok (.int (a - b))) := op2_int sub_int
theorem Op2.isub : Op2 g n (inplaceOp .Sub) (.int a) (.int b) (.ok (.int (a - b))) := op2_int isub_int
theorem Op2.mul (hm : IntMulOk a b) : Op2 g n (binaryOp .Mult) (.int a) (.int b) (.ok (.int (a * b))) := op2_int (mul_int · hm)
theorem Op2.mod (hb : b ≠ 0) : Op2 g n (binaryOp .Mod) (.int a) (.int b) (.ok (.int (a.fmod b))) := op2_int (mod_int' hb)
theorem Op2.fdiv (hb : b ≠ 0) (hl : b.natAbs.log2 < 9000) : Op2 g n (binaryOp .FloorDiv) (.int a) (.int b) (.ok (.int (a.fdiv b))) := op2_int fun h => floordiv_int hb h (.inl (PyProof.noPylong_of_log2 hl))
theorem Op2.ifdiv (hb : b ≠ 0) (hl : b.natAbs.log2 < 9000) : Op2 g n (inplaceOp .FloorDiv) (.int a) (.int b) (.ok (.int (a.fdiv b))) := op2_int fun h => ifloordiv_int hb h (.inl (PyProof.noPylong_of_log2 hl))
theorem Op2.pow (hn : 0 ≤ b) (hs : (Builtin.Int.intBits a : Int) * b ≤ 2 ^ 27) : Op2 g n (binaryOp .Pow) (.int a) (.int b) (.ok (.int (a ^ b.toNat))) := op2_int (pow_int hn hs)
theorem Op2.lt : Op2 g n (compareOp .Lt) (.int a) (.int b) (.ok (.bool (decide (a < b)))) := op2_int_bool lt_int
theorem Op2.le : Op2 g n (compareOp .LtE) (.int a) (.int b) (.ok (.bool (decide (a ≤ b)))) := op2_int_bool le_int
theorem Op2.gt : Op2 g n (compareOp .Gt) (.int a) (.int b) (.ok (.bool (decide (b < a)))) := op2_int_bool gt_int
theorem Op2.ge : Op2 g n (compareOp .GtE) (.int a) (.int b) (.ok (.bool (decide (b ≤ a)))) := op2_int_bool ge_int
theorem Op2.eq : Op2 g n (compareOp .Eq) (.int a) (.int b) (.ok (.bool (decide (a = b)))) := by
  have e : decide (a = b) = (a == b) := by by_cases h : a = b <;> simp [h]
  rw [e]; exact op2_int_bool eq_int
theorem Op2.ne : Op2 g n (compareOp .NotEq) (.int a) (.int b) (.ok (.bool (decide (a ≠ b)))) := by
  have e : decide (a ≠ b) = (a != b) := by by_cases h : a = b <;> simp [h]
  rw [e]; exact op2_int_bool ne_int
end
section
variable {g : GI} {f : Fm} {n : Nat} {ρ : En}
theorem Ev.neg {e : Expr} {pos : Pos} {a : Int} (he : Ev g f ρ e (.ok (.int a))) : Ev g f ρ (.UnaryOp .USub e pos) (.ok (.int (-a))) := fun σ s Q E S q ex => by
  refine wpAny_UnaryOp (he σ s _ _ S (fun v d h' tk ed k r => ?_) fun c e' h' tk ec => nomatch ec)
  injection ed with ed; subst ed
  simp only [Rep] at r; obtain ⟨t, rfl⟩ := r
  exact neg_int (q _ _ h' _ rfl k (by simp only [Rep]; exact ⟨_, rfl⟩))
theorem Ex.aug {x : Str} {xp pos : Pos} {op : Operator} {e : Expr} {rest : List Stmt} {a b c : V} {O : Out → Prop} (ok : FmOk g f n) (i : Nat) (hx : f.xs[i]? = some x) (hm : ρ[i]? = some (some (.sh a))) (he : Ev g f ρ e (.ok b)) (ho : Op2 g n (inplaceOp op) a b (.ok c))
    (h : Ex g f (ρ.set i (some (.sh c))) rest O) : Ex g f ρ (.AugAssign (.Name x xp) op e pos :: rest) O := fun σ s Q E S q ex => by
  obtain ⟨m, hns, hv⟩ := S.ex
  obtain ⟨v, ev, rv⟩ := hv i x _ (Fm.nmx hx) hm
  refine wpAny_execs_cons (wpAny_AugAssign_Name (wpAny_loadName_local ok.kind (ok.loc x (List.mem_of_getElem? hx)) hns ev (he σ s _ _ S (fun u d h₁ t₁ e k₁ ru => ?_) fun c e' h' tk ec => nomatch ec)))
  injection e with e; subst e
  refine ho f ρ σ { s with heap := h₁, toks := t₁ } _ _ v u ok (S.mono ok k₁) (rmono S rv k₁) ru (fun w d h₂ t₂ e k₂ rw' => ?_) fun c e' h' tk ec => nomatch ec
  injection e with e; subst e
  exact store_sh (s := { s with heap := h₂, toks := t₂ }) ok (S.mono ok (k₁.trans k₂)) hx rw' fun h'' tk' S' T' => Ex.after (σ := σ) (ρ := ρ) (s := s) h S' ((k₁.trans k₂).trn.trans T') q ex
end
def ItSrc (g : GI) (f : Fm) (ρ : En) (e : Expr) (items : List V) : Prop :=
  ∀ σ (s : Shared) (Q : Value → Shared → Prop) (E : Value → Shared → Prop), St g f σ ρ s.heap →
    (∀ I h₁ h₂ tk fp P Stt, Kf f.fs s.heap h₁ → Kf f.fs h₁ h₂ → h₁.get? I = none → (∀ i h, Stt i h → ∃ o, h.get? I = some o) → Walks g.prog g.w f.A I fp [I] items.length P Stt → Stt 0 h₂ →
      (∀ b ∈ fp, b = I ∨ (¬ XOf f σ ρ b ∧ ∃ o, h₁.get? b = some o)) → (∀ i v d, P i v → items[i]? = some d → Rep g.C h₁ (XOf f σ ρ) d v) → Q (.ref I) { s with heap := h₂, toks := tk }) →
    wpAny (model g.prog g.w) f.A (eval e f.env) (fun x s₁ => wpAny (model g.prog g.w) f.A (pyIter x) Q E s₁) E s
section
variable {g : GI} {f : Fm} {n : Nat} {ρ : En}
def Sp.plus (σ : Sp) (I : Addr) : Sp := ⟨fun b => σ.Y b ∨ b = I, σ.α⟩
theorem plus_X {σ : Sp} {I : Addr} {ρ : En} {b : Addr} (h : XOf f (σ.plus I) ρ b) : XOf f σ ρ b ∨ b = I := by
  rcases h with (h | h) | h | h
  · exact .inl (.inl h)
  · exact .inr h
  · exact .inl (.inr (.inl h))
  · exact .inl (.inr (.inr h))
theorem St.plus {σ : Sp} {h h' : Heap} {I : Addr} (ok : FmOk g f n) (S : St g f σ ρ h) (k : Kf f.fs h h') (hI : h.get? I = none) (hI' : ∃ o, h'.get? I = some o) : St g f (σ.plus I) ρ h' := by
  have S' := S.mono ok k
  have nown : ∀ i, Own ρ i → σ.α i ≠ I := fun i hi z => by
    obtain ⟨o, e⟩ := S.ownEx ⟨i, hi, rfl⟩; rw [z, hI] at e; cases e
  obtain ⟨⟨m, hns, hv⟩, c, kE, nd, fr, len, Yfs, yex, offY, Y0⟩ := S
  refine ⟨⟨m, k.ns hns, fun i x b hx hb => (hv i x b hx hb).step (k.kx fun b m => ?_) (fun b m => ?_) rfl fun ho o e => (k _ o e).1 ?_⟩, S'.cs, S'.kE, nd, fr, len, fun b hb => .inl (Yfs b hb), fun b hb => hb.elim (fun hb => S'.Yex b hb) fun hb => hb ▸ hI', fun i hi m => m.elim (offY i hi) (nown i hi), fun b hb => hb.elim (Y0 b) fun hb => hb ▸ (by cases z : g.H0.get? I with | none => rfl | some o => rw [c.keep I o z] at hI; cases hI)⟩
  · rw [Fm.fs_eq] at m
    rcases List.mem_cons.mp m with rfl | m
    · exact .inr (.inl rfl)
    · exact .inl (Yfs b m)
  · rcases plus_X m with m | m
    · exact .inl m
    · right; rw [m]; exact hI
  · have := fr i ⟨b, hb, ho⟩
    exact own_off ok this.1 this.2.1
theorem St.minus {σ σ' : Sp} {h : Heap} {I : Addr} (S : St g f σ' ρ h) (hY : σ'.Y = (σ.plus I).Y) (hYf : ∀ b ∈ fsOf f.outer, σ.Y b) : St g f ⟨σ.Y, σ'.α⟩ ρ h := by
  obtain ⟨⟨m, hns, hv⟩, c, kE, nd, fr, len, Yfs, yex, offY, Y0⟩ := S
  refine ⟨⟨m, hns, fun i x b hx hb => (hv i x b hx hb).step (KX.refl _ _) (fun b m => .inl ?_) rfl fun _ _ e => e⟩, c, kE, nd, fr, len, hYf, fun b hb => yex b (by rw [hY]; exact .inl hb), fun i hi m => offY i hi (by rw [hY]; exact .inl m), fun b hb => Y0 b (by rw [hY]; exact .inl hb)⟩
  rcases m with m | m | m
  · refine .inl ?_; rw [hY]; exact .inl m
  · exact .inr (.inl m)
  · exact .inr (.inr m)
theorem St.tickAny {σ : Sp} {Y' : Addr → Prop} {h h' : Heap} {I : Addr} (ok : FmOk g f n) (S : St g f σ ρ h) (hY : σ.Y I) (hY' : ∀ b, Y' b → σ.Y b) (hYf : ∀ b ∈ fsOf f.outer, Y' b) (hn : ∀ b, b = I → b ∉ f.fs ∧ ¬ OwnA σ ρ b ∧ f.hE.get? b = none ∧ g.H0.get? b = none) (k : ∀ b o, b ≠ I → h.get? b = some o → h'.get? b = some o)
    (hI' : Y' I → ∃ o, h'.get? I = some o) : St g f ⟨Y', σ.α⟩ ρ h' := by
  obtain ⟨hI1, hI2, hI3, hI4⟩ := hn I rfl
  have fsX := S.fsX
  obtain ⟨⟨m, ⟨oL, es, ep, hL, rest⟩, hv⟩, c, kE, nd, fr, len, Yfs, yex, offY, Y0⟩ := S
  have LI : f.L ≠ I := fun z => hI1 (by rw [← z, Fm.fs_eq]; exact .head _)
  refine ⟨⟨m, ⟨oL, es, ep, k _ _ LI hL, rest⟩, fun i x b hx hb => (hv i x b hx hb).step (fun b o e n => k b o (fun z => n (z ▸ .inl hY)) e) (fun b m => .inl (m.elim (fun m => .inl (hY' b m)) .inr)) rfl fun ho o e => k _ o (fun z => hI2 ⟨i, ⟨b, hb, ho⟩, z.symm⟩) e⟩,
    ⟨fun b o e => k b o (fun z => by rw [z, hI4] at e; cases e) (c.keep b o e), ?_⟩, fun b o e => ?_, nd, fr, len, hYf, fun b hb => ?_, fun i hi m => offY i hi (hY' _ m), fun b hb => Y0 b (hY' b hb)⟩
  rotate_right
  · by_cases z : b = I
    · rw [z]; exact hI' (z ▸ hb)
    · obtain ⟨o, e⟩ := yex b (hY' b hb); exact ⟨o, k b o z e⟩
  · have hf := c.ff
    have no : ∀ b ∈ fsOf f.outer, b ≠ I := fun b hb z => hI1 (by rw [← z, Fm.fs_eq]; exact .tail _ hb)
    generalize f.outer = l at hf no
    clear c kE nd fr len Yfs hv fsX yex offY Y0 hYf
    induction l with
    | nil => trivial
    | cons env r ih =>
      obtain ⟨a1, ⟨L', o, q1, q2, q3, q4⟩, a3⟩ := hf
      refine ⟨a1, ⟨L', o, q1, q2, k _ _ (no L' (by unfold fsOf; rw [List.filterMap_cons, q1]; exact .head _)) q3, q4⟩, ih a3 fun b hb => no b (by unfold fsOf at hb ⊢; rw [List.filterMap_cons, q1]; exact .tail _ hb)⟩
  · have hb : b ≠ I := fun z => by rw [z, hI3] at e; cases e
    obtain ⟨p, sl, q⟩ := kE b o e
    exact ⟨fun n => k b o hb (p n), sl, k b _ hb q⟩
theorem St.tick {σ : Sp} {h h' : Heap} {I : Addr} (ok : FmOk g f n) (S : St g f σ ρ h) (hY : σ.Y I) (hn : ∀ b, b = I → b ∉ f.fs ∧ ¬ OwnA σ ρ b ∧ f.hE.get? b = none ∧ g.H0.get? b = none) (k : ∀ b o, b ≠ I → h.get? b = some o → h'.get? b = some o) (hI' : ∃ o, h'.get? I = some o) : St g f σ ρ h' :=
  S.tickAny (Y' := σ.Y) ok hY (fun _ m => m) S.Yfs hn k fun _ => hI'
def TurnO (stp : En → Prop) (O : Out → Prop) : Out → Prop
  | .next ρ' | .cont ρ' => stp ρ'
  | .brk ρ' => O (.next ρ')
  | .ret d => O (.ret d)
  | .exc _ _ => False
theorem Ex.for {x : Str} {px pos : Pos} {e : Expr} {body : List Stmt} {items : List V} {O : Out → Prop} {τ : Type} (ok : FmOk g f n) (i : Nat) (hx : f.xs[i]? = some x) (he : ItSrc g f ρ e items) (R : τ → En) (J : Nat → τ → Prop) (t0 : τ) (h0 : Weak ρ (R t0)) (j0 : J 0 t0)
    (turn : ∀ (k : Nat) (t : τ) (d : V), items[k]? = some d → J k t → Ex g f ((R t).set i (some (.sh d))) body (TurnO (fun ρ' => ∃ t', J (k + 1) t' ∧ Weak ρ' (R t')) O))
    (done : ∀ t, J items.length t → O (.next (R t))) (hs : ∀ x, foldedSetIterable e f.env x = pure x := by intro _; rfl) : Ex g f ρ [.For (.Name x px) e body [] pos] O := fun σ s Q E S q ex => by
  have fin : wpAny (model g.prog g.w) f.A (exec (.For (.Name x px) e body [] pos) f.env) Q E s := by
    refine wpAny_For (he σ s _ E S fun I h₁ h₂ tk fp P Stt k₁ k₂ hI exI W st0 hfp hP => ?_) hs
    have S₁ := S.mono ok k₁
    have S₂ : St g f (σ.plus I) ρ h₂ := S₁.plus ok k₂ hI (exI 0 _ st0)
    have e1 : f.hE.get? I = none := by
      cases z : f.hE.get? I with
      | none => rfl
      | some o => obtain ⟨_, q⟩ := (S₁.kE I o z).2; rw [hI] at q; cases q
    have e2 : g.H0.get? I = none := by
      cases z : g.H0.get? I with
      | none => rfl
      | some o => have := S₁.cs.keep I o z; rw [hI] at this; cases this
    have e3 : I ∉ f.fs := fun m => by
      rw [Fm.fs_eq] at m
      rcases List.mem_cons.mp m with z | z
      · obtain ⟨m, ⟨oL, _, _, hL, _⟩, _⟩ := S₁.ex; rw [← z, hI] at hL; cases hL
      · obtain ⟨o, z', _⟩ := (S₁.cs.ff.mem z).2; rw [hI] at z'; cases z'
    have e4 : ¬ OwnA σ ρ I := by
      rintro ⟨j, ⟨b', hb', ho⟩, hj⟩
      obtain ⟨m', _, hv⟩ := S₁.ex
      have hl : j < f.nm.length := Nat.lt_of_lt_of_le (List.getElem?_eq_some_iff.mp hb').1 S₁.len
      obtain ⟨o, z⟩ := (hv j _ b' (List.getElem?_eq_getElem hl) hb').there ho
      rw [← hj, hI] at z; cases z
    have T₂ : Trn f (σ.plus I) ρ h₁ (σ.plus I) ρ h₂ := k₂.trn
    refine codeAny_forLoop (fun c s' => ∃ (k : Nat) (t : τ) (σ' : Sp) (h' : Heap) (tk' : Nat), s' = { s with heap := h', toks := tk' } ∧ k ≤ items.length ∧ c = items.length - k ∧ J k t ∧ St g f σ' (R t) h' ∧ Trn f (σ.plus I) ρ h₁ σ' (R t) h' ∧ ¬ OwnA σ' (R t) I ∧ Stt k h') ?_ items.length
      ⟨0, t0, σ.plus I, h₂, tk, rfl, Nat.zero_le _, rfl, j0, S₂.weak h0, T₂.trans (h0.trn _ _), fun m => e4 (h0.ownA m), st0⟩
    rintro c s' ⟨k, t, σ', h', tk', rfl, hk, rfl, hJ, S', T', nI, st'⟩
    have hYI : σ'.Y I := by rw [T'.Y]; exact .inr rfl
    have off : ∀ b, b = I → b ∉ f.fs ∧ ¬ OwnA σ' (R t) b ∧ f.hE.get? b = none ∧ g.H0.get? b = none := fun b z => by subst z; exact ⟨e3, nI, e1, e2⟩
    have tick : ∀ {h₃ : Heap}, (∀ b o, b ≠ I → h'.get? b = some o → h₃.get? b = some o) → Trn f (σ.plus I) ρ h₁ σ' (R t) h₃ := fun {h₃} kp =>
      ⟨fun b o e n1 n2 => kp b o (fun z => by rw [z, hI] at e; cases e) (T'.keep b o e n1 n2), fun b o e m => let ⟨o', z⟩ := T'.frames b o e m; ⟨o', kp b o' (fun z => e3 (z ▸ m)) z⟩, T'.own, T'.Y⟩
    have backT : ∀ {ρ'' : En} {σ'' : Sp} {h'' : Heap}, Trn f (σ.plus I) ρ h₁ σ'' ρ'' h'' → Trn f σ ρ s.heap ⟨σ.Y, σ''.α⟩ ρ'' h'' := fun {ρ'' σ'' h''} T'' => by
      refine ⟨fun b o e n1 n2 => T''.keep b o ((k₁ b o e).1 n1) n1 (fun ⟨j, z, z'⟩ => n2 ⟨j, z, z'⟩), fun b o e m => let ⟨_, z⟩ := (k₁ b o e).2; T''.frames b _ z m, fun b m => ?_, rfl⟩
      rcases T''.own b m with ⟨j, z, z'⟩ | m
      · exact .inl ⟨j, z, z'⟩
      · right
        cases z : s.heap.get? b with
        | none => rfl
        | some o => obtain ⟨_, z'⟩ := (k₁ b o z).2; rw [m] at z'; cases z'
    have back : ∀ {ρ'' : En} {σ'' : Sp} {h'' : Heap}, St g f σ'' ρ'' h'' → Trn f (σ.plus I) ρ h₁ σ'' ρ'' h'' → St g f ⟨σ.Y, σ''.α⟩ ρ'' h'' ∧ Trn f σ ρ s.heap ⟨σ.Y, σ''.α⟩ ρ'' h'' := fun {ρ'' σ'' h''} S'' T'' => ⟨S''.minus T''.Y S.Yfs, backT T''⟩
    by_cases hlt : k < items.length
    · refine W.item k { s with heap := h', toks := tk' } _ _ hlt st' fun v h₃ tk₃ hPv st₃ hk₃ => ?_
      have keep₃ : ∀ b o, b ≠ I → h'.get? b = some o → h₃.get? b = some o := fun b o hb e => hk₃ b o (by simpa using hb) e
      have S₃ : St g f σ' (R t) h₃ := S'.tick ok hYI off keep₃ (exI _ _ st₃)
      have T₃ := tick keep₃
      have hd : items[k]? = some items[k] := List.getElem?_eq_getElem hlt
      have rv : Rep g.C h₃ (XOf f σ' (R t)) items[k] v := by
        refine (hP k v _ hPv hd).mono (fun b o e nx => T₃.keep b o e (fun m => nx (S₁.fsX b m)) fun m => nx (.inr (.inr m))) fun b m => ?_
        rcases m with m | m | m
        · rw [T'.Y] at m
          rcases m with m | m
          · exact .inl (.inl m)
          · exact .inr (m ▸ hI)
        · exact .inl (.inr (.inl m))
        · rcases T'.own b m with m | m
          · exact .inl (.inr (.inr m))
          · exact .inr m
      refine wpAny_assign_Name (store_sh (s := { s with heap := h₃, toks := tk₃ }) ok S₃ hx rv fun h₄ tk₄ S₄ T₄ => ?_)
      have nI₄ : ¬ OwnA σ' ((R t).set i (some (.sh items[k]))) I := fun m => by
        rcases T₄.own I m with m | m
        · exact nI m
        · obtain ⟨o, z⟩ := exI _ _ st₃
          have z' : ({ s with heap := h₃, toks := tk₃ } : Shared).heap.get? I = none := m
          rw [show ({ s with heap := h₃, toks := tk₃ } : Shared).heap = h₃ from rfl, z] at z'; cases z'
      have st₄ : Stt (k + 1) h₄ := W.frame _ _ _ st₃ fun b hb o e => by
        rcases hfp b hb with z | ⟨nx, o', z⟩
        · subst z; exact T₄.keep b o e e3 nI
        · refine T₄.keep b o e (fun m => nx (S₁.fsX b m)) fun m => ?_
          rcases T'.own b m with m | m
          · exact nx (.inr (.inr m))
          · rw [z] at m; cases m
      refine turn k t _ hd hJ σ' { s with heap := h₄, toks := tk₄ } _ _ S₄ (fun fl o h₅ tk₅ ho hok => ?_) fun c ρ' e' h₅ tk₅ ho _ => ho.elim
      have next : ∀ ρ' σ₅, (∃ t', J (k + 1) t' ∧ Weak ρ' (R t')) → St g f σ₅ ρ' h₅ → Trn f σ' ((R t).set i (some (.sh items[k]))) h₄ σ₅ ρ' h₅ →
          ∃ m, m < items.length - k ∧ ∃ (k' : Nat) (t' : τ) (σ' : Sp) (h' : Heap) (tk' : Nat), ({ s with heap := h₅, toks := tk₅ } : Shared) = { s with heap := h', toks := tk' } ∧ k' ≤ items.length ∧ m = items.length - k' ∧ J k' t' ∧ St g f σ' (R t') h' ∧ Trn f (σ.plus I) ρ h₁ σ' (R t') h' ∧ ¬ OwnA σ' (R t') I ∧ Stt k' h' := by
        rintro ρ' σ₅ ⟨t', hJ', w'⟩ S₅ T₅
        have nI₅ : ¬ OwnA σ₅ ρ' I := fun m => by
          rcases T₅.own I m with m | m
          · exact nI₄ m
          · obtain ⟨o, z⟩ := exI _ _ st₄; rw [z] at m; cases m
        refine ⟨items.length - (k + 1), by omega, k + 1, t', σ₅, h₅, tk₅, rfl, hlt, rfl, hJ', S₅.weak w', ((T₃.trans T₄).trans T₅).trans (w'.trn _ _), fun m => nI₅ (w'.ownA m), ?_⟩
        refine W.frame _ _ _ st₄ fun b hb o e => ?_
        rcases hfp b hb with z | ⟨nx, o', z⟩
        · subst z; exact T₅.keep b o e e3 nI₄
        · refine T₅.keep b o e (fun m => nx (S₁.fsX b m)) fun m => ?_
          rcases (T₃.trans T₄).own b m with m | m
          · exact nx (.inr (.inr m))
          · rw [z] at m; cases m
      cases o with
      | next ρ' => obtain ⟨rfl, σ₅, S₅, T₅⟩ := hok; exact next ρ' σ₅ ho S₅ T₅
      | cont ρ' => obtain ⟨rfl, σ₅, S₅, T₅⟩ := hok; exact next ρ' σ₅ ho S₅ T₅
      | brk ρ' =>
        obtain ⟨rfl, σ₅, S₅, T₅⟩ := hok
        obtain ⟨S₆, T₆⟩ := back S₅ ((T₃.trans T₄).trans T₅)
        exact q .next (.next ρ') h₅ tk₅ ho ⟨rfl, _, S₆, T₆⟩
      | ret d =>
        obtain ⟨u, rfl, c, kE, r⟩ := hok
        refine q (.ret u) (.ret d) h₅ tk₅ ho ⟨u, rfl, c, kE, r.weak fun b m => ?_⟩
        show σ'.Y b
        rw [T'.Y]; exact .inl m
      | exc _ _ => exact ho.elim
    · have hke : k = items.length := by omega
      subst hke
      refine W.done { s with heap := h', toks := tk' } _ _ st' fun h₃ tk₃ hk₃ => wpAny_execs_nil ?_
      have keep₃ : ∀ b o, b ≠ I → h'.get? b = some o → h₃.get? b = some o := fun b o hb e => hk₃ b o (by simpa using hb) e
      have nYI : ¬ σ.Y I := fun m => by
        obtain ⟨o, e⟩ := S₁.Yex I m; rw [hI] at e; cases e
      have S₄ : St g f ⟨σ.Y, σ'.α⟩ (R t) h₃ := S'.tickAny ok hYI (fun b m => by rw [T'.Y]; exact .inl m) S.Yfs off keep₃ fun m => (nYI m).elim
      have T₄ := backT (tick keep₃)
      exact q .next (.next (R t)) h₃ tk₃ (done t hJ) ⟨rfl, _, S₄, T₄⟩
  refine wpAny_execs_cons (wpAny_mono fin (fun fl s' h => ?_) fun _ _ h => h)
  cases fl <;> first | exact h | exact wpAny_execs_nil h
end
section
variable {g : GI} {f : Fm} {n : Nat} {ρ : En}
theorem push_kf (fs : List Addr) (h : Heap) (o : Obj) : Kf fs h (h.push o) := Kf.of_keeps fun _ _ e => Heap.get?_push_of_some _ e
theorem ItSrc.list {e : Expr} {ds : List V} (ok : FmOk g f n) (he : Ev g f ρ e (.ok (.list ds))) : ItSrc g f ρ e ds := fun σ s Q E S q => by
  refine he σ s _ _ S (fun v d h₁ t₁ ed k₁ r₁ => ?_) fun c e' h' tk ec => nomatch ec
  injection ed with ed; subst ed
  simp only [Rep] at r₁
  obtain ⟨a, vs, m, rfl, ha, rl, hl⟩ := r₁
  have hI : h₁.get? h₁.objs.size = none := none_of_ge (Nat.le_refl _)
  have hlist : ({ s with heap := h₁, toks := t₁ } : Shared).heap.IsList a vs.toArray := ⟨_, ha.1, rfl, m, rfl⟩
  have hne : a ≠ h₁.objs.size := fun z => by rw [← z, ha.1] at hI; cases hI
  refine wpAny_pyIter_list hlist ?_
  have W := Walks.list (prog := g.prog) (w := g.w) ok.hd h₁.objs.size a hne vs.toArray
  have hsz : vs.toArray.size = ds.length := by simp [RepL.length rl]
  rw [hsz] at W
  refine q h₁.objs.size h₁ _ t₁ _ _ _ k₁ (push_kf _ _ _) hI ?_ W ⟨⟨_, Heap.get?_push_size _ rfl, rfl, rfl⟩, Heap.IsList.at hlist fun o e => Heap.get?_push_of_some _ e⟩ (fun b hb => ?_) fun i v d hP hd' => ?_
  · rintro i h ⟨⟨o, ho, _⟩, _⟩; exact ⟨o, ho⟩
  · simp at hb
    rcases hb with rfl | rfl
    · exact .inl rfl
    · exact .inr ⟨ha.2, _, ha.1⟩
  · obtain ⟨v', e1, e2⟩ := rl.get hd'
    have hP' : vs[i]? = some v := by simpa using hP
    rw [e1] at hP'; injection hP' with hP'; subst hP'; exact e2
theorem ItSrc.tup {e : Expr} {ds : List V} (ok : FmOk g f n) (he : Ev g f ρ e (.ok (.tup ds))) : ItSrc g f ρ e ds := fun σ s Q E S q => by
  refine he σ s _ _ S (fun v d h₁ t₁ ed k₁ r₁ => ?_) fun c e' h' tk ec => nomatch ec
  injection ed with ed; subst ed
  simp only [Rep] at r₁
  obtain ⟨a, vs, m, rfl, ha, rl, hl⟩ := r₁
  have hI : h₁.get? h₁.objs.size = none := none_of_ge (Nat.le_refl _)
  have hlist : ({ s with heap := h₁, toks := t₁ } : Shared).heap.IsTuple a vs.toArray := ⟨_, ha.1, rfl, m, rfl⟩
  have hne : a ≠ h₁.objs.size := fun z => by rw [← z, ha.1] at hI; cases hI
  refine wpAny_pyIter_tuple hlist ?_
  have W := Walks.tuple (prog := g.prog) (w := g.w) ok.hd h₁.objs.size a hne vs.toArray
  have hsz : vs.toArray.size = ds.length := by simp [RepL.length rl]
  rw [hsz] at W
  refine q h₁.objs.size h₁ _ t₁ _ _ _ k₁ (push_kf _ _ _) hI ?_ W ⟨⟨_, Heap.get?_push_size _ rfl, rfl, rfl⟩, ⟨_, Heap.get?_push_of_some _ ha.1, rfl, m, rfl⟩⟩ (fun b hb => ?_) fun i v d hP hd' => ?_
  · rintro i h ⟨⟨o, ho, _⟩, _⟩; exact ⟨o, ho⟩
  · simp at hb
    rcases hb with rfl | rfl
    · exact .inl rfl
    · exact .inr ⟨ha.2, _, ha.1⟩
  · obtain ⟨v', e1, e2⟩ := rl.get hd'
    have hP' : vs[i]? = some v := by simpa using hP
    rw [e1] at hP'; injection hP' with hP'; subst hP'; exact e2
def vbytes (b : List UInt8) : List V := b.map fun c => .int (c.toNat : Int)
theorem ItSrc.bytes {e : Expr} {b : List UInt8} (ok : FmOk g f n) (he : Ev g f ρ e (.ok (.bytes b))) : ItSrc g f ρ e (vbytes b) := fun σ s Q E S q => by
  refine he σ s _ _ S (fun v d h₁ t₁ ed k₁ r₁ => ?_) fun c e' h' tk ec => nomatch ec
  injection ed with ed; subst ed
  simp only [Rep] at r₁
  obtain ⟨⟨t, rfl⟩, hl⟩ := r₁
  have hI : h₁.get? h₁.objs.size = none := none_of_ge (Nat.le_refl _)
  refine PySem.W.KBw.pyIter_bytes ?_
  have W := PySem.W.KBw.walks (prog := g.prog) (w := g.w) ok.hd h₁.objs.size b.toArray t
  have hsz : b.toArray.size = (vbytes b).length := by simp [vbytes]
  rw [hsz] at W
  refine q h₁.objs.size h₁ _ t₁ _ _ _ k₁ (push_kf _ _ _) hI ?_ W ?_ (fun b hb => ?_) fun i v d hP hd' => ?_
  · rintro i h ⟨o, ho, _⟩; exact ⟨o, ho⟩
  · exact ⟨_, Heap.get?_push_size _ rfl, rfl, rfl⟩
  · simp at hb; exact .inl hb
  · obtain ⟨c, u, e1, rfl⟩ := hP
    simp only [vbytes, List.getElem?_map] at hd'
    have e1' : b[i]? = some c := by simpa using e1
    rw [e1'] at hd'
    simp at hd'; subst hd'
    simp only [Rep]; exact ⟨_, rfl⟩
theorem call_raw {fv : Value} {first : List Value} {e : Expr} {es : List Expr} {pos : Pos} {σ : Sp} {ds : List V} {s : Shared} {Q : Value → Shared → Prop} {E : Value → Shared → Prop}
    (ok : FmOk g f n) (hk : Kept g fv) (S : St g f σ ρ s.heap) (ha : Evs g f ρ (e :: es) (.ok ds))
    (q : ∀ vs h' tk, Kf f.fs s.heap h' → RepL g.C h' (XOf f σ ρ) ds vs → wpAny (model g.prog g.w) f.A (call fv (first ++ vs)) Q E { s with heap := h', toks := tk })
    (hh : starEach (e :: es) f.env = (false, eval e f.env) :: starEach es f.env) (hplain : (backTo pos (starEach es f.env)).any (·.1) = false) :
    wpAny (model g.prog g.w) f.A (callWith pos fv first (backTo pos (starEach (e :: es) f.env)) []) Q E s := by
  refine callWith_of (P := fun h => g.K.In h) (by rw [hh]; show ((false || (backTo pos (starEach es f.env)).any (·.1)) || false) = false; rw [hplain]; rfl) (kept_looks hk) ?_
  have hpos := ha pos
  rw [hh] at hpos ⊢
  refine evalArgs_plain (x := eval e f.env) (rest := backTo pos (starEach es f.env)) ?_
  refine hpos σ s _ _ S (fun vs ds' h' tk ed k rr => ?_) fun c e' h' tk ec => nomatch ec
  injection ed with ed; subst ed
  have S' := S.mono ok k
  exact ⟨ok.G.X.keeps S'.cs.keep, q vs h' tk k rr⟩
theorem kept_type {T : String} : Kept g (.type T) := .inl fun _ e => nomatch e
theorem kept_builtin {T : String} : Kept g (.builtin T) := .inl fun _ e => nomatch e
def vrange (a : Int) (n : Nat) : List V := (List.range n).map fun i : Nat => V.int (a + (i : Int))
def vdown (a : Int) (n : Nat) : List V := (List.range n).map fun i : Nat => V.int (a - (i : Int))
theorem range_src {σ : Sp} {s : Shared} {h₁ : Heap} {t₁ : Nat} {a b c : Int} {t u v : Tok} {N : Nat} {items : List V} {Q : Value → Shared → Prop} {E : Value → Shared → Prop} (ok : FmOk g f n) (k₁ : Kf f.fs s.heap h₁)
    (hs : Builtin.Range.small a b c = true) (hN : Builtin.Range.rangeSize a b c = (N : Int)) (hl : items.length = N) (hit : ∀ (i : Nat) (d : V), items[i]? = some d → d = V.int (a + (i : Int) * c))
    (q : ∀ I h₁ h₂ tk fp P Stt, Kf f.fs s.heap h₁ → Kf f.fs h₁ h₂ → h₁.get? I = none → (∀ i h, Stt i h → ∃ o, h.get? I = some o) → Walks g.prog g.w f.A I fp [I] items.length P Stt → Stt 0 h₂ →
      (∀ b ∈ fp, b = I ∨ (¬ XOf f σ ρ b ∧ ∃ o, h₁.get? b = some o)) → (∀ i v d, P i v → items[i]? = some d → Rep g.C h₁ (XOf f σ ρ) d v) → Q (.ref I) { s with heap := h₂, toks := tk }) :
    wpAny (model g.prog g.w) f.A (pyIter (.ref h₁.objs.size)) Q E { s with heap := h₁.push { cls := .type "range", data := .fields #[.int a t, .int b u, .int c v] }, toks := t₁ } := by
  refine wpAny_pyIter_range (IsRange.new ..) hs ?_
  have hI : (h₁.push { cls := .type "range", data := .fields #[.int a t, .int b u, .int c v] }).get? (h₁.push { cls := .type "range", data := .fields #[.int a t, .int b u, .int c v] }).objs.size = none := none_of_ge (Nat.le_refl _)
  have W := Walks.range (prog := g.prog) (w := g.w) ok.hd (h₁.push { cls := .type "range", data := .fields #[.int a t, .int b u, .int c v] }).objs.size a c N
  rw [← hl] at W
  refine q _ _ _ t₁ _ _ _ (k₁.trans (push_kf _ _ _)) (push_kf _ _ _) hI (fun i h z => ⟨_, z⟩) W ?_ (fun b hb => .inl (by simpa using hb)) fun i v d hP hd => ?_
  · have e1 : (a + ((0 : Nat) : Int) * c) = a := by simp
    have e2 : ((items.length : Int) - ((0 : Nat) : Int)) = Builtin.Range.rangeSize a b c := by rw [hN, hl]; simp
    show IsRangeIter _ _ (a + ((0 : Nat) : Int) * c) ((items.length : Int) - ((0 : Nat) : Int)) c
    rw [e1, e2]
    exact Heap.get?_push_size _ rfl
  · obtain ⟨t, rfl⟩ := hP
    rw [hit i d hd]
    simp only [Rep]; exact ⟨_, rfl⟩
theorem ItSrc.range1 {e : Expr} {np pos : Pos} {a : Int} (ok : FmOk g f n) (hx : f.env.kindOf "range" = some .globalImplicit) (gv : GV g "range" (.type "range")) (he : Ev g f ρ e (.ok (.int a))) (h1 : -(2 ^ 62) ≤ a) (h2 : a < 2 ^ 62)
    (hh : starEach [e] f.env = [(false, eval e f.env)] := by rfl) : ItSrc g f ρ (.Call (.Name "range" np) [e] [] pos) (vrange 0 a.toNat) := fun σ s Q E S q => by
  refine wpAny_Call_ofName (gv f n np s _ _ ok hx S.cs ?_)
  refine call_raw (first := []) ok kept_type S (Evs.cons ok he Evs.nil hh) (fun vs h' tk k rr => ?_) hh rfl
  simp only [RepL, Rep] at rr
  obtain ⟨v, r, rfl, ⟨t, rfl⟩, rfl⟩ := rr
  refine call_range_1 ?_
  refine range_src (s := s) (h₁ := h') (σ := σ) (ρ := ρ) (N := a.toNat) ok k (small_one (by decide) (by decide) h1 h2) (by rw [rangeSize_one]; split <;> omega) (by simp [vrange]) (fun i d hd => ?_) q
  simp only [vrange, List.getElem?_map] at hd
  cases z : (List.range a.toNat)[i]? with
  | none => rw [z] at hd; cases hd
  | some j =>
    rw [z] at hd; simp at hd
    have : j = i := by
      have := List.getElem?_eq_some_iff.mp z
      obtain ⟨h, e⟩ := this
      simpa using e.symm
    subst this; rw [← hd]; simp
end
section
variable {g : GI} {f : Fm} {n : Nat} {ρ : En}
theorem small_line {k : Nat} (h : k ≤ 1000) : k ≤ sizeLine := Nat.le_trans h (by unfold sizeLine; decide)
theorem push_repl {σ : Sp} {h : Heap} {o : Obj} {d : List V} {v : List Value} (r : RepL g.C h (XOf f σ ρ) d v) : RepL g.C (h.push o) (XOf f σ ρ) d v := r.mono (fun _ _ e _ => Heap.get?_push_of_some _ e) fun _ m => .inl m
theorem newSeq {T : String} {vs : List Value} {s : Shared} {Q : Value → Shared → Prop} {E : Value → Shared → Prop} {A : Around} (hl : vs.length ≤ sizeLine)
    (h : Q (.ref s.heap.objs.size) { s with heap := s.heap.push { cls := .type T, data := .seq vs.toArray } }) : wpAny (model g.prog g.w) A (newObj (.type T) (.seq vs.toArray)) Q E s :=
  wpAny_newObj_type h (by show vs.toArray.size ≤ sizeLine; rw [List.size_toArray]; exact hl)
theorem Ev.listD {es : List Expr} {pos : Pos} {ds : List V} (ok : FmOk g f n) (he : Evs g f ρ es (.ok ds)) (hl : ds.length ≤ 1000) : Ev g f ρ (.List es pos) (.ok (.list ds)) := fun σ s Q E S q ex => by
  refine List_ (he pos σ s _ _ S (fun vs ds' h₁ t₁ ed k r => ?_) fun c e' h' tk ec => nomatch ec)
  injection ed with ed; subst ed
  have hlen : vs.length ≤ sizeLine := by rw [RepL.length r]; exact small_line hl
  refine newSeq (s := { s with heap := h₁, toks := t₁ }) hlen (q _ _ _ t₁ rfl (k.trans (push_kf _ _ _)) ?_)
  simp only [Rep]
  exact ⟨_, vs, _, rfl, ⟨Heap.get?_push_size _ rfl, (S.mono ok k).fresh_off (none_of_ge (Nat.le_refl _))⟩, push_repl r, hlen⟩
theorem Ev.tupD {es : List Expr} {kk : Nat} {pos : Pos} {ds : List V} (ok : FmOk g f n) (he : Evs g f ρ es (.ok ds)) (hl : ds.length ≤ 1000) : Ev g f ρ (.Tuple es kk pos) (.ok (.tup ds)) := fun σ s Q E S q ex => by
  refine Tuple_ (he pos σ s _ _ S (fun vs ds' h₁ t₁ ed k r => ?_) fun c e' h' tk ec => nomatch ec)
  injection ed with ed; subst ed
  have hlen : vs.length ≤ sizeLine := by rw [RepL.length r]; exact small_line hl
  refine newSeq (s := { s with heap := h₁, toks := t₁ }) hlen (q _ _ _ t₁ rfl (k.trans (push_kf _ _ _)) ?_)
  simp only [Rep]
  exact ⟨_, vs, _, rfl, ⟨Heap.get?_push_size _ rfl, (S.mono ok k).fresh_off (none_of_ge (Nat.le_refl _))⟩, push_repl r, hlen⟩
theorem own_of {σ : Sp} {h h' : Heap} {a : Addr} {ds : List V} {vs : List Value} {m : Nat} (S : St g f σ ρ h) (k : Kf f.fs h h') (ha : h'.get? a = some (lobj vs m)) (hn : h.get? a = none) (r : RepL g.C h (XOf f σ ρ) ds vs) (hl : vs.length ≤ sizeLine) :
    VarOk g f h' (fun b => XOf f σ ρ b ∨ b = a) (fun _ => some (.ref a)) a "" (.li ds) :=
  ⟨rfl, vs, m, ha, r.mono (k.kx S.fsX) fun b hb => hb.elim .inl fun z => .inr (z ▸ hn), hl⟩
theorem EvO.listD {es : List Expr} {pos : Pos} {ds : List V} (ok : FmOk g f n) (he : Evs g f ρ es (.ok ds)) (hl : ds.length ≤ 1000) : EvO g f ρ (.List es pos) (.li ds) := fun σ s Q E S q => by
  refine List_ (he pos σ s _ _ S (fun vs ds' h₁ t₁ ed k r => ?_) fun c e' h' tk ec => nomatch ec)
  injection ed with ed; subst ed
  have hlen : vs.length ≤ sizeLine := by rw [RepL.length r]; exact small_line hl
  have hn : h₁.get? h₁.objs.size = none := none_of_ge (Nat.le_refl _)
  have hn0 : s.heap.get? h₁.objs.size = none := by
    cases z : s.heap.get? h₁.objs.size with
    | none => rfl
    | some o => obtain ⟨_, q⟩ := (k _ o z).2; rw [hn] at q; cases q
  refine newSeq (s := { s with heap := h₁, toks := t₁ }) hlen (q _ _ t₁ (k.trans (push_kf _ _ _)) hn0 ?_)
  exact own_of (S.mono ok k) (push_kf _ _ _) (Heap.get?_push_size _ rfl) hn r hlen
def vidx (len : Nat) (i : Int) : Nat := if i < 0 then (i + len).toNat else i.toNat
def TyOf : V → String
  | .list _ => "list"
  | .tup _ => "tuple"
  | .bytes _ => "bytes"
  | .int _ => "int"
  | _ => "bool"
theorem rep_type {h : Heap} {X : Addr → Prop} {d : V} {v : Value} {s : Shared} (hs : s.heap = h) (r : Rep g.C h X d v) (hT : TyOf d = "list" ∨ TyOf d = "tuple" ∨ TyOf d = "bytes") : s.TypeIs v (TyOf d) := by
  cases d with
  | list ds => simp only [Rep] at r; obtain ⟨a, vs, n, rfl, ha, _⟩ := r; exact ⟨_, hs ▸ ha.1, rfl⟩
  | tup ds => simp only [Rep] at r; obtain ⟨a, vs, n, rfl, ha, _⟩ := r; exact ⟨_, hs ▸ ha.1, rfl⟩
  | bytes b => simp only [Rep] at r; obtain ⟨⟨t, rfl⟩, _⟩ := r; exact typeIs_bytes _ _ _
  | none => simp [TyOf] at hT
  | bool _ => simp [TyOf] at hT
  | int _ => simp [TyOf] at hT
  | name _ => simp [TyOf] at hT
  | scr _ => simp [TyOf] at hT
theorem ty_getitem {d : V} (hT : TyOf d = "list" ∨ TyOf d = "tuple" ∨ TyOf d = "bytes") : ∃ id, typeLookup (.type (TyOf d)) "__getitem__" = pure (some (.builtin id)) := by
  rcases hT with e | e | e <;> rw [e]
  · exact ⟨_, slot_list_getitem.lookup⟩
  · exact ⟨_, slot_tuple_getitem.lookup⟩
  · exact ⟨_, FB.slot_bytes_getitem.lookup⟩
theorem Ev.sub {value slice : Expr} {pos : Pos} {a b : V} {r : Res} (ok : FmOk g f n) (ho : Ev g f ρ value (.ok a)) (hi : Ev g f ρ slice (.ok b)) (hT : TyOf a = "list" ∨ TyOf a = "tuple" ∨ TyOf a = "bytes") (hg : Op2 g n getItem a b r)
    (hs : ∀ o i, subscripted slice false o i = operate [o, i] (getItem o i) := by intro _ _; rfl) : Ev g f ρ (.Subscript value slice pos) r := fun σ s Q E S q ex => by
  refine Subscript_ (ho σ s _ _ S (fun v d h₁ t₁ e k₁ r₁ => ?_) fun c e' h' tk ec => nomatch ec)
  injection e with e; subst e
  refine hi σ _ _ _ (S.mono ok k₁) (fun u d h₂ t₂ e k₂ r₂ => ?_) fun c e' h' tk ec => nomatch ec
  injection e with e; subst e
  have rv := rmono S r₁ k₂
  obtain ⟨id, hl⟩ := ty_getitem hT
  refine tail_any (rep_type (s := { s with heap := h₂, toks := t₂ }) rfl rv hT) hl ?_ (hs v u)
  exact hg f ρ σ { s with heap := h₂, toks := t₂ } Q E v u ok (S.mono ok (k₁.trans k₂)) rv r₂ (fun v d h' tk e k r => q v d h' tk e ((k₁.trans k₂).trans k) r)
    fun c e' h' tk e fl => ex c e' h' tk e (fl.trans (k₁.trans k₂))
theorem Op2.itemList {ds : List V} {i : Int} {d : V} (hd : ds[vidx ds.length i]? = some d) (h1 : -(ds.length : Int) ≤ i) : Op2 g n getItem (.list ds) (.int i) (.ok d) := fun f ρ σ s Q E va vb ok S ra rb q ex => by
  simp only [Rep] at ra rb
  obtain ⟨a, vs, m, rfl, ha, rl, hl⟩ := ra
  obtain ⟨t, rfl⟩ := rb
  have hlist : s.heap.IsList a vs.toArray := ⟨_, ha.1, rfl, m, rfl⟩
  obtain ⟨v, ev, rv⟩ := rl.get hd
  have hlen : vs.length = ds.length := RepL.length rl
  have hb : ds.length ≤ 2 ^ 24 := by rw [← hlen]; exact hl
  have hi : vidx ds.length i < ds.length := (List.getElem?_eq_some_iff.mp hd).1
  unfold vidx at hi ev
  split at hi
  · rename_i hneg
    rw [if_pos hneg] at ev
    refine wpAny_getItem_list_neg hlist hneg (by simpa [hlen] using h1) (by omega) (x := v) (by simpa [hlen] using ev) ?_
    exact q v _ s.heap s.toks rfl (Kf.refl _ _) rv
  · rename_i hpos
    rw [if_neg hpos] at ev
    refine wpAny_getItem_list hlist (by omega) (by omega) (x := v) (by simpa using ev) ?_
    exact q v _ s.heap s.toks rfl (Kf.refl _ _) rv
theorem seqIdx {len : Nat} {i : Int} (hi : vidx len i < len) (h1 : -(len : Int) ≤ i) : seqIndex? i len = some (vidx len i) := by
  unfold vidx at hi ⊢
  unfold seqIndex?
  by_cases hneg : i < 0
  · simp only [if_pos hneg] at hi ⊢
    rw [if_pos (by simp; omega)]
  · simp only [if_neg hneg] at hi ⊢
    rw [if_pos (by simp; omega)]
theorem Op2.itemTup {ds : List V} {i : Int} {d : V} (hd : ds[vidx ds.length i]? = some d) (h1 : -(ds.length : Int) ≤ i) : Op2 g n getItem (.tup ds) (.int i) (.ok d) := fun f ρ σ s Q E va vb ok S ra rb q ex => by
  simp only [Rep] at ra rb
  obtain ⟨a, vs, m, rfl, ha, rl, hl⟩ := ra
  obtain ⟨t, rfl⟩ := rb
  have hlist : IsTup s.heap a vs.toArray := ⟨_, ha.1, rfl, m, rfl⟩
  obtain ⟨v, ev, rv⟩ := rl.get hd
  have hlen : vs.length = ds.length := RepL.length rl
  have hb : ds.length ≤ 2 ^ 24 := by rw [← hlen]; exact hl
  have hi : vidx ds.length i < ds.length := (List.getElem?_eq_some_iff.mp hd).1
  refine getItem_tuple hlist (j := vidx ds.length i) (x := v) (by unfold vidx at hi; split at hi <;> omega) (by unfold vidx at hi; split at hi <;> omega) ?_ (by simpa using ev) ?_
  · rw [List.size_toArray, hlen]; exact seqIdx hi h1
  · exact q v _ s.heap s.toks rfl (Kf.refl _ _) rv
def clo (n : Nat) : Option Int → Nat
  | none => 0
  | some i => clipAt n i
def chi (n : Nat) : Option Int → Nat
  | none => n
  | some i => clipAt n i
def slc {α : Type} (l : List α) (lo hi : Option Int) : List α := (l.drop (clo l.length lo)).take (chi l.length hi - clo l.length lo)
theorem slc_length_le {α : Type} (l : List α) (lo hi : Option Int) : (slc l lo hi).length ≤ l.length := by
  unfold slc; rw [List.length_take, List.length_drop]; omega
theorem RepL.slc {h : Heap} {X : Addr → Prop} {ds : List V} {vs : List Value} (r : RepL g.C h X ds vs) (lo hi : Option Int) : RepL g.C h X (Mine.slc ds lo hi) (Mine.slc vs lo hi) := by
  unfold Mine.slc
  rw [RepL.length r]
  exact (r.drop _).take _
theorem pick_slc (vs : List Value) (lo hi : Option Int) : slicePick vs.toArray lo hi none = (slc vs lo hi).toArray := by
  rw [slicePick_plain]
  unfold slc
  cases lo <;> cases hi <;> rfl
def EvP (g : GI) (f : Fm) (ρ : En) (e : Option Expr) (i : Option Int) : Prop := match e with
  | none => i = none
  | some e => ∃ k, i = some k ∧ Ev g f ρ e (.ok (.int k))
theorem EvP.no : EvP g f ρ none none := rfl
theorem EvP.at {e : Expr} {k : Int} (h : Ev g f ρ e (.ok (.int k))) : EvP g f ρ (some e) (some k) := ⟨k, rfl, h⟩
theorem evalP {e : Option Expr} {i : Option Int} {σ : Sp} {s : Shared} {Q : Value → Shared → Prop} {E : Value → Shared → Prop} (he : EvP g f ρ e i) (S : St g f σ ρ s.heap)
    (q : ∀ v h' tk, IsPart v i → Kf f.fs s.heap h' → Q v { s with heap := h', toks := tk }) : wpAny (model g.prog g.w) f.A (evalPart e f.env) Q E s := by
  cases e with
  | none => cases he; rw [evalPart_none]; exact wpAny_pure (q .none s.heap s.toks .none (Kf.refl _ _))
  | some e =>
    obtain ⟨k, rfl, h⟩ := he
    rw [evalPart_some]
    refine h σ s _ _ S (fun v d h' tk ed kk r => ?_) fun c e' h' tk ec => nomatch ec
    injection ed with ed; subst ed
    simp only [Rep] at r; obtain ⟨t, rfl⟩ := r
    exact q _ h' tk (.int k t) kk
theorem sub_slice {value : Expr} {lower upper : Option Expr} {p pos : Pos} {lo hi : Option Int} {a : V} {σ : Sp} {s : Shared} {Q : Value → Shared → Prop} {E : Value → Shared → Prop} (ok : FmOk g f n) (S : St g f σ ρ s.heap) (ho : Ev g f ρ value (.ok a)) (hl : EvP g f ρ lower lo) (hu : EvP g f ρ upper hi)
    (hT : TyOf a = "list" ∨ TyOf a = "tuple" ∨ TyOf a = "bytes")
    (q : ∀ v h' tk l u sl, Kf f.fs s.heap h' → Rep g.C h' (XOf f σ ρ) a v → h'.IsSliceOf sl l u .none → IsPart l lo → IsPart u hi → wpAny (model g.prog g.w) f.A (getItem v (.ref sl)) Q E { s with heap := h', toks := tk }) :
    wpAny (model g.prog g.w) f.A (eval (.Subscript value (.Slice lower upper none p) pos) f.env) Q E s := by
  refine Subscript_ (ho σ s _ _ S (fun v d h₁ t₁ e k₁ r₁ => ?_) fun c e' h' tk ec => nomatch ec)
  injection e with e; subst e
  refine wpAny_Slice (evalP hl (S.mono ok k₁) fun l h₂ t₂ pl k₂ => evalP (s := { s with heap := h₂, toks := t₂ }) hu (S.mono ok (k₁.trans k₂)) fun u h₃ t₃ pu k₃ => ?_)
  rw [evalPart_none]
  refine wpAny_pure ?_
  have k := k₂.trans (k₃.trans (push_kf f.fs h₃ { cls := .type "slice", data := .fields #[l, u, .none] }))
  have rv := rmono S r₁ k
  obtain ⟨id, hli⟩ := ty_getitem hT
  exact tail_any (rep_type (s := { s with heap := h₃.push { cls := .type "slice", data := .fields #[l, u, .none] }, toks := t₃ }) rfl rv hT) hli (q v _ t₃ l u _ (k₁.trans k) rv (Heap.IsSliceOf.new _ _ _ _) pl pu) rfl
theorem Ev.sliceList {value : Expr} {lower upper : Option Expr} {p pos : Pos} {lo hi : Option Int} {ds : List V} (ok : FmOk g f n) (ho : Ev g f ρ value (.ok (.list ds))) (hl : EvP g f ρ lower lo) (hu : EvP g f ρ upper hi) :
    Ev g f ρ (.Subscript value (.Slice lower upper none p) pos) (.ok (.list (slc ds lo hi))) := fun σ s Q E S q ex => by
  refine sub_slice ok S ho hl hu (.inl rfl) fun v h' tk l u sl k r hs pl pu => ?_
  simp only [Rep] at r
  obtain ⟨a, vs, m, rfl, ha, rl, hlen⟩ := r
  have hle : (slc vs lo hi).length ≤ sizeLine := Nat.le_trans (slc_length_le _ _ _) hlen
  refine wpAny_getItem_list_slice (s := { s with heap := h', toks := tk }) (l := a) (items := vs.toArray) ⟨_, ha.1, rfl, m, rfl⟩ hs pl pu .none (by simp) ?_ (by simpa using hlen)
  rw [pick_slc]
  refine q _ _ _ tk rfl (k.trans (push_kf _ _ _)) ?_
  simp only [Rep]
  exact ⟨_, slc vs lo hi, _, rfl, ⟨Heap.get?_push_size _ rfl, (S.mono ok k).fresh_off (none_of_ge (Nat.le_refl _))⟩, push_repl (rl.slc lo hi), hle⟩
end
section
variable {prog : Program} {w : World} {A : Around} {E : Value → Shared → Prop} {s : Shared}
theorem part_index {v : Value} {i : Option Int} {Q : Option Int → Shared → Prop} (hv : IsPart v i) (h : Q i s) : wpAny (model prog w) A (Builtin.Slice.slicePartIndex v) Q E s := by
  cases hv with
  | none => exact slicePart_none h
  | int i t => exact slicePart_int h
theorem adjust_gen (lo hi : Option Int) (n : Nat) : Builtin.Slice.sliceAdjust lo hi 1 (n : Int) = ((clo n lo : Int), (chi n hi : Int)) := by
  unfold Builtin.Slice.sliceAdjust
  have h1 : ¬ ((1 : Int) < 0) := by omega
  simp only [h1, if_false]
  congr 1
  · cases lo with
    | none => rfl
    | some i => simp only [clo, clipAt_cast]; split <;> omega
  · cases hi with
    | none => rfl
    | some i => simp only [chi, clipAt_cast]; split <;> omega
theorem places_gen (a b : Nat) : Builtin.Slice.slicePlaces (a : Int) (b : Int) 1 = b - a := by
  unfold Builtin.Slice.slicePlaces
  have h1 : (1 : Int) > 0 := by omega
  simp only [h1, if_true, Int.ediv_one]
  split <;> omega
theorem applied_gen {sl : Addr} {l u : Value} {lo hi : Option Int} {n : Nat} {Q : Int × Int × Nat → Shared → Prop} (hs : s.heap.IsSliceOf sl l u .none) (pl : IsPart l lo) (pu : IsPart u hi) (h : Q ((clo n lo : Int), 1, chi n hi - clo n lo) s) :
    wpAny (model prog w) A (Builtin.Slice.sliceApplied (.ref sl) (pure (n : Int))) Q E s := by
  obtain ⟨os, hos, hcs, hds⟩ := id hs
  unfold Builtin.Slice.sliceApplied Builtin.Slice.sliceFields
  refine wpAny_bind (wpAny_bind (wpAny_field hos hds (x := l) rfl (wpAny_bind (wpAny_field hos hds (x := u) rfl (wpAny_bind (wpAny_field hos hds (x := .none) rfl (wpAny_pure ?_)))))))
  refine wpAny_bind (slicePart_none ?_)
  show wpAny _ _ (if ((1 : Int) == 0) = true then _ else _) _ _ s
  rw [if_neg (by decide)]
  refine wpAny_bind (part_index pl (wpAny_bind (part_index pu (wpAny_bind (wpAny_pure ?_)))))
  show wpAny _ _ (match Builtin.Slice.sliceAdjust lo hi 1 (n : Int) with | (lo, hi) => pure (lo, (1 : Int), Builtin.Slice.slicePlaces lo hi 1)) _ _ s
  rw [adjust_gen]
  show wpAny _ _ (pure ((clo n lo : Int), (1 : Int), Builtin.Slice.slicePlaces (clo n lo : Int) (chi n hi : Int) 1)) _ _ s
  rw [places_gen]
  exact wpAny_pure h
theorem pick_gen (xs : List Value) (lo hi : Option Int) : ((List.range (chi xs.length hi - clo xs.length lo)).filterMap fun (k : Nat) => xs.toArray[((clo xs.length lo : Int) + (k : Int) * 1).toNat]?).toArray = (slc xs lo hi).toArray := by
  have e : (fun (k : Nat) => xs.toArray[((clo xs.length lo : Int) + (k : Int) * 1).toNat]?) = fun k => xs.toArray[clo xs.length lo + k]? := by
    funext k
    have : ((clo xs.length lo : Int) + (k : Int) * 1).toNat = clo xs.length lo + k := by omega
    rw [this]
  rw [e]
  have := pick_run xs.toArray (clo xs.length lo) (chi xs.length hi - clo xs.length lo)
  rw [List.filterMap_map] at this
  have e2 : ((fun x => xs.toArray[x]?) ∘ fun x => clo xs.length lo + x) = fun k => xs.toArray[clo xs.length lo + k]? := rfl
  rw [e2] at this
  rw [this]; rfl
theorem getItem_tup_slice {t sl : Addr} {xs : List Value} {l u : Value} {lo hi : Option Int} {Q : Value → Shared → Prop} (ht : IsTup s.heap t xs.toArray) (hs : s.heap.IsSliceOf sl l u .none) (pl : IsPart l lo) (pu : IsPart u hi) (hsz : xs.length ≤ sizeLine)
    (h : Q (.ref s.heap.objs.size) { s with heap := s.heap.push { cls := .type "tuple", data := .seq (slc xs lo hi).toArray } })
    (hw : slc xs lo hi = xs → Q (.ref t) s) : wpAny (model prog w) A (getItem (.ref t) (.ref sl)) Q E s := by
  have hok : sizeOk (.seq (slc xs lo hi).toArray) := by
    show (slc xs lo hi).toArray.size ≤ sizeLine
    rw [List.size_toArray]
    exact Nat.le_trans (slc_length_le _ _ _) hsz
  obtain ⟨os, hos, hcs, hds⟩ := id hs
  have hTs : s.TypeIs (.ref sl) "slice" := ⟨os, hos, hcs⟩
  unfold getItem
  try with_reducible refine wpAny_holding ?_
  first | refine wpAny_bind (wpAny_pure ?_) | skip
  refine wpAny_bind (wpAny_sequenceKey ht.typeIs (by decide) ?_)
  refine wpAny_bind (wpAny_callSpecial?_slot (name := Str.ofString "__getitem__") ht.typeIs slot_tuple_getitem
    (wpAny_call_entry slot_tuple_getitem ht.typeIs entry_tuple_getitem ?_ (args_tuple_getitem _ _)))
  show wpAny _ _ (Builtin.Tuple.tupleItemsOf (.ref t) >>= _) _ _ s
  refine wpAny_bind (tupleItemsOf_ ht ?_)
  refine wpAny_bind (wpAny_typeOf hTs ?_)
  rw [if_pos (by decide)]
  refine wpAny_bind (applied_gen (n := xs.length) (by exact hs) pl pu ?_)
  show wpAny _ _ (if ((clo xs.length lo : Int) == 0 && (1 : Int) == 1 && (chi xs.length hi - clo xs.length lo) == xs.length) = true then _ else _) _ _ s
  by_cases hc : ((clo xs.length lo : Int) == 0 && (1 : Int) == 1 && (chi xs.length hi - clo xs.length lo) == xs.length) = true
  · rw [if_pos hc]
    have hwh : slc xs lo hi = xs := by
      simp only [Bool.and_eq_true, beq_iff_eq] at hc
      obtain ⟨⟨h1, _⟩, h2⟩ := hc
      have h3 : clo xs.length lo = 0 := by omega
      unfold slc
      rw [h2, h3]
      simp
    refine wpAny_bind (m := Builtin.Tuple.tupleIsExact _) (wpAny_bind (wpAny_typeOf ht.typeIs (wpAny_pure ?_)))
    rw [if_pos (by decide)]
    exact wpAny_bind (wpAny_rule (wpAny_pure ⟨_, rfl, wpAny_pure (hw hwh)⟩))
  · rw [if_neg hc, pick_gen xs]
    first
      | exact wpAny_bind (m := Builtin.Tuple.tupleExact _) (wpAny_newObj_type (wpAny_pure ⟨_, rfl, wpAny_pure h⟩) hok)
      | exact wpAny_bind (m := Builtin.Tuple.tupleExact _) (wpAny_newObj_type (wpAny_bind (wpAny_pure (wpAny_pure ⟨_, rfl, wpAny_pure h⟩))) hok)
      | exact wpAny_bind (wpAny_bind (m := Builtin.Tuple.tupleExact _) (wpAny_newObj_type (wpAny_pure (wpAny_pure ⟨_, rfl, wpAny_pure h⟩)) hok))
end
section
variable {g : GI} {f : Fm} {n : Nat} {ρ : En}
theorem Ev.sliceTup {value : Expr} {lower upper : Option Expr} {p pos : Pos} {lo hi : Option Int} {ds : List V} (ok : FmOk g f n) (ho : Ev g f ρ value (.ok (.tup ds))) (hl : EvP g f ρ lower lo) (hu : EvP g f ρ upper hi) :
    Ev g f ρ (.Subscript value (.Slice lower upper none p) pos) (.ok (.tup (slc ds lo hi))) := fun σ s Q E S q ex => by
  refine sub_slice ok S ho hl hu (.inr (.inl rfl)) fun v h' tk l u sl k r hs pl pu => ?_
  have r' := r
  simp only [Rep] at r
  obtain ⟨a, vs, m, rfl, ha, rl, hlen⟩ := r
  have hle : (slc vs lo hi).length ≤ sizeLine := Nat.le_trans (slc_length_le _ _ _) hlen
  refine getItem_tup_slice (s := { s with heap := h', toks := tk }) (t := a) (xs := vs) ⟨_, ha.1, rfl, m, rfl⟩ hs pl pu hlen ?_ fun hw => ?_
  · refine q _ _ _ tk rfl (k.trans (push_kf _ _ _)) ?_
    simp only [Rep]
    exact ⟨_, slc vs lo hi, _, rfl, ⟨Heap.get?_push_size _ rfl, (S.mono ok k).fresh_off (none_of_ge (Nat.le_refl _))⟩, push_repl (rl.slc lo hi), hle⟩
  · refine q _ _ h' tk rfl k ?_
    have hlen' : vs.length = ds.length := RepL.length rl
    have rl' := rl.slc lo hi
    rw [hw] at rl'
    simp only [Rep]
    exact ⟨a, vs, m, rfl, ha, rl', hlen⟩
end
section
variable {g : GI} {f : Fm} {n : Nat} {ρ : En}
theorem own_set {i : Nat} {b b' : B} (hb : ρ[i]? = some (some b)) (ho : b.owns = true) (ho' : b'.owns = true) (j : Nat) : Own (ρ.set i (some b')) j ↔ Own ρ j := by
  constructor
  · rintro ⟨c, hc, oc⟩
    rcases set_get hc with ⟨e, _⟩ | ⟨_, e'⟩
    · exact ⟨b, e ▸ hb, ho⟩
    · exact ⟨c, e', oc⟩
  · rintro ⟨c, hc, oc⟩
    by_cases e : j = i
    · subst e
      refine ⟨b', ?_, ho'⟩
      rw [List.getElem?_set_self]
      exact (List.getElem?_eq_some_iff.mp hb).1
    · exact ⟨c, by rw [List.getElem?_set_ne (Ne.symm e)]; exact hc, oc⟩
theorem X_set {σ : Sp} {i : Nat} {b b' : B} (hb : ρ[i]? = some (some b)) (ho : b.owns = true) (ho' : b'.owns = true) (a : Addr) : XOf f σ (ρ.set i (some b')) a ↔ XOf f σ ρ a := by
  unfold XOf OwnA
  simp only [own_set hb ho ho']
theorem St.turn {σ : Sp} {h h' : Heap} {i : Nat} {b b' : B} (ok : FmOk g f n) (S : St g f σ ρ h) (hb : ρ[i]? = some (some b)) (ho : b.owns = true) (ho' : b'.owns = true) (hs : Heap.SameBut (σ.α i) h h')
    (hv : ∀ m x a, VarOk g f h (XOf f σ ρ) m a x b → a = σ.α i → VarOk g f h' (XOf f σ (ρ.set i (some b'))) m a x b') :
    St g f σ (ρ.set i (some b')) h' ∧ Trn f σ ρ h σ (ρ.set i (some b')) h' := by
  have hOwn : Own ρ i := ⟨b, hb, ho⟩
  have fr := S.fresh i hOwn
  have aX : XOf f σ ρ (σ.α i) := .inr (.inr ⟨i, hOwn, rfl⟩)
  have off := own_off ok fr.1 fr.2.1
  obtain ⟨oa, hoa⟩ := S.ownEx ⟨i, hOwn, rfl⟩
  have kb : ∀ c o, c ≠ σ.α i → h.get? c = some o → h'.get? c = some o := fun c o hc e => (hs.2 c hc).trans e
  have exI : ∃ o, h'.get? (σ.α i) = some o := by
    obtain ⟨m, hns, hvar⟩ := S.ex
    have hl : i < f.nm.length := Nat.lt_of_lt_of_le (List.getElem?_eq_some_iff.mp hb).1 S.len
    exact (hv m _ _ (hvar i _ b (List.getElem?_eq_getElem hl) hb) rfl).there ho'
  refine ⟨?_, ⟨fun c o e n1 n2 => kb c o (fun z => n2 (z ▸ ⟨i, hOwn, rfl⟩)) e, fun c o e m => ⟨o, kb c o (fun z => off (z ▸ m)) e⟩, fun c hc => .inl ?_, rfl⟩⟩
  rotate_left
  · obtain ⟨j, hj, e⟩ := hc; exact ⟨j, (own_set hb ho ho' j).mp hj, e⟩
  obtain ⟨⟨m, ⟨oL, es, ep, hL, rest⟩, hvar⟩, c, kE, nd, frs, len, Yfs, yex, offY, Y0⟩ := S
  refine ⟨⟨m, ⟨oL, es, ep, kb _ _ (fun z => fr.2.1 z.symm) hL, rest⟩, fun j x d hx hd => ?_⟩, ?_, ?_, fun j l hj hl => nd j l ((own_set hb ho ho' j).mp hj) ((own_set hb ho ho' l).mp hl), fun j hj => frs j ((own_set hb ho ho' j).mp hj), by rw [List.length_set]; exact len, Yfs, fun d hd => ?_, fun j hj => offY j ((own_set hb ho ho' j).mp hj), Y0⟩
  · rcases set_get hd with ⟨e, e'⟩ | ⟨e, e'⟩
    · subst e; injection e' with e'; subst e'
      exact hv m x _ (hvar j x b hx hb) rfl
    · refine (hvar j x d hx e').step (fun d o ed nx => kb d o (fun z => nx (z ▸ aX)) ed) (fun d m => .inl ((X_set hb ho ho' d).mp m)) rfl fun od o eo => kb _ o (fun z => e (nd j i ⟨d, e', od⟩ hOwn z)) eo
  · refine ⟨fun d o e => kb d o (fun z => by rw [z, fr.2.2] at e; cases e) (c.keep d o e), ?_⟩
    have hf := c.ff
    have no : ∀ b ∈ fsOf f.outer, b ≠ σ.α i := fun b hb z => off (by rw [← z, Fm.fs_eq]; exact .tail _ hb)
    generalize f.outer = l at hf no
    clear c kE nd frs len Yfs yex offY Y0 hvar
    induction l with
    | nil => trivial
    | cons env r ih =>
      obtain ⟨a1, ⟨L', o, q1, q2, q3, q4⟩, a3⟩ := hf
      refine ⟨a1, ⟨L', o, q1, q2, kb _ _ (no L' (by unfold fsOf; rw [List.filterMap_cons, q1]; exact .head _)) q3, q4⟩, ih a3 fun b hb => no b (by unfold fsOf at hb ⊢; rw [List.filterMap_cons, q1]; exact .tail _ hb)⟩
  · intro d o e
    obtain ⟨p, sl, q⟩ := kE d o e
    have hd : d ≠ σ.α i := fun z => by rw [z, fr.1] at e; cases e
    exact ⟨fun nb => kb d o hd (p nb), sl, kb d _ hd q⟩
  · by_cases z : d = σ.α i
    · rw [z]; exact exI
    · obtain ⟨o, e⟩ := yex d hd; exact ⟨o, kb d o z e⟩
theorem Ex.assignO {x : Str} {xp pos : Pos} {e : Expr} {rest : List Stmt} {b : B} {O : Out → Prop} (ok : FmOk g f n) (i : Nat) (hx : f.xs[i]? = some x) (he : EvO g f ρ e b) (hob : b.obj = true) (h : Ex g f (ρ.set i (some b)) rest O)
    (hs : swapsWith e (some (.Name x xp)) pos.line f.env = pure false := by rfl) : Ex g f ρ (.Assign [.Name x xp] e pos :: rest) O := fun σ s Q E S q ex => by
  have hb : b.owns = true := B.obj_owns hob
  refine wpAny_execs_cons (wpAny_Assign_Name (he σ s _ _ S fun a h' tk k hn hv => ?_) hs)
  let σ' : Sp := ⟨σ.Y, fun j => if j = i then a else σ.α j⟩
  have hσi : σ'.α i = a := by simp [σ']
  have e1 : f.hE.get? a = none := by
    cases z : f.hE.get? a with
    | none => rfl
    | some o => obtain ⟨_, q⟩ := (S.kE a o z).2; rw [hn] at q; cases q
  have e2 : g.H0.get? a = none := by
    cases z : g.H0.get? a with
    | none => rfl
    | some o => have := S.cs.keep a o z; rw [hn] at this; cases this
  have e3 : a ≠ f.L := fun z => by
    obtain ⟨_, ⟨oL, _, _, hL, _⟩, _⟩ := S.ex; rw [← z, hn] at hL; cases hL
  refine store_any (s := { s with heap := h', toks := tk }) (b := b) (σ' := σ') ok S k hx (fun j hj => by simp [σ', hj]) rfl (fun _ => by rw [hσi]; exact ⟨⟨e1, e3, e2⟩, hn⟩) (fun h'' m kk em => ?_) fun h'' S' T' => Ex.after (σ := σ) (ρ := ρ) (s := s) h S' T' q ex
  rw [hσi]
  have hX : ∀ c, XOf f σ' (ρ.set i (some b)) c → (XOf f σ ρ c ∨ c = a) ∨ h'.get? c = none := fun c hc => by
    rcases hc with hc | hc | ⟨j, ⟨b', hb', ho'⟩, hc⟩
    · exact .inl (.inl (.inl hc))
    · exact .inl (.inl (.inr (.inl hc)))
    · rcases set_get hb' with ⟨e, _⟩ | ⟨e, e'⟩
      · subst e; exact .inl (.inr (hc.trans hσi))
      · refine .inl (.inl (.inr (.inr ⟨j, ⟨b', e', ho'⟩, ?_⟩))); rw [hc]; simp [σ', e]
  have kx : KX (fun c => XOf f σ ρ c ∨ c = a) h' h'' := fun c o ec nc => kk c o (fun z => nc (.inl (.inr (.inl z)))) ec
  have := hv.step (m' := fun _ => some (.ref a)) kx hX rfl fun _ o eo => kk a o e3 eo
  cases b with
  | sh d => cases hb
  | bo d => cases hb
  | ce d => cases hob
  | bc d => cases hob
  | me d => cases hob
  | li ds => obtain ⟨_, r⟩ := this; exact ⟨em, r⟩
  | ba bs => obtain ⟨_, r⟩ := this; exact ⟨em, r⟩
theorem Ex.freeze {i : Nat} {ds : List V} {b : List Stmt} {O : Out → Prop} (ok : FmOk g f n) (hb : ρ[i]? = some (some (.li ds))) (h : Ex g f (ρ.set i (some (.sh (.list ds)))) b O) : Ex g f ρ b O := fun σ s Q E S q ex => by
  have hi : Own ρ i := ⟨_, hb, rfl⟩
  have sub : ∀ j, Own (ρ.set i (some (.sh (.list ds)))) j → Own ρ j ∧ j ≠ i := fun j ⟨c, hc, oc⟩ => by
    rcases set_get hc with ⟨_, e'⟩ | ⟨e, e'⟩
    · injection e' with e'; subst e'; cases oc
    · exact ⟨⟨c, e', oc⟩, e⟩
  have subX : ∀ a, XOf f σ (ρ.set i (some (.sh (.list ds)))) a → XOf f σ ρ a := fun a ha => by
    rcases ha with ha | ha | ⟨j, hj, ha⟩
    · exact .inl ha
    · exact .inr (.inl ha)
    · exact .inr (.inr ⟨j, (sub j hj).1, ha⟩)
  refine Ex.after (σ := σ) (ρ := ρ) (s := s) (σ' := σ) h ?_ ⟨fun _ _ e _ _ => e, fun _ o e _ => ⟨o, e⟩, fun a ⟨j, hj, ha⟩ => .inl ⟨j, (sub j hj).1, ha⟩, rfl⟩ q ex
  have fr := S.fresh i hi
  have nX : ¬ XOf f σ (ρ.set i (some (.sh (.list ds)))) (σ.α i) := by
    rintro (ha | ha | ⟨j, hj, ha⟩)
    · exact S.offY i hi ha
    · exact fr.2.1 ha
    · exact (sub j hj).2 (S.inj i j hi (sub j hj).1 ha).symm
  obtain ⟨⟨m, hns, hv⟩, c, kE, nd, frs, len, Yfs, yex, offY, Y0⟩ := S
  refine ⟨⟨m, hns, fun j x d hx hd => ?_⟩, c, kE, fun j l hj hl => nd j l (sub j hj).1 (sub l hl).1, fun j hj => frs j (sub j hj).1, by rw [List.length_set]; exact len, Yfs, yex, fun j hj => offY j (sub j hj).1, Y0⟩
  rcases set_get hd with ⟨e, e'⟩ | ⟨e, e'⟩
  · subst e; injection e' with e'; subst e'
    obtain ⟨em, vs, k, ha, r, hl⟩ := hv j x _ hx hb
    refine ⟨_, em, ?_⟩
    simp only [Rep]
    exact ⟨_, vs, k, rfl, ⟨ha, nX⟩, r.mono (KX.refl _ _) fun a ha => .inl (subX a ha), hl⟩
  · exact (hv j x d hx e').step (KX.refl _ _) (fun a ha => .inl (subX a ha)) rfl fun _ _ e => e
end
section
variable {g : GI} {f : Fm} {n : Nat} {ρ : En}
theorem ownName {x : Str} {i : Nat} {b : B} {np : Pos} {σ : Sp} {s : Shared} {Q : Value → Shared → Prop} {E : Value → Shared → Prop} (ok : FmOk g f n) (S : St g f σ ρ s.heap) (hx : f.xs[i]? = some x) (hb : ρ[i]? = some (some b)) (ho : b.obj = true)
    (h : Q (.ref (σ.α i)) s) : wpAny (model g.prog g.w) f.A (eval (.Name x np) f.env) Q E s := by
  obtain ⟨m, hns, hv⟩ := S.ex
  have hm := List.mem_of_getElem? hx
  have e : m x = some (.ref (σ.α i)) := by
    have := hv i x b (Fm.nmx hx) hb
    cases b with
    | sh _ => cases ho
    | bo _ => cases ho
    | ce _ => cases ho
    | bc _ => cases ho
    | me _ => cases ho
    | li _ => exact this.1
    | ba _ => exact this.1
  exact wpAny_Name (wpAny_loadName_local ok.kind (ok.loc x hm) hns e h) (ok.ndx hm)
theorem St.li {i : Nat} {ds : List V} {σ : Sp} {h : Heap} (S : St g f σ ρ h) (hb : ρ[i]? = some (some (.li ds))) : ∃ vs m, h.get? (σ.α i) = some (lobj vs m) ∧ RepL g.C h (XOf f σ ρ) ds vs ∧ vs.length ≤ sizeLine := by
  obtain ⟨m, hns, hv⟩ := S.ex
  have hl : i < f.nm.length := Nat.lt_of_lt_of_le (List.getElem?_eq_some_iff.mp hb).1 S.len
  obtain ⟨_, r⟩ := hv i _ _ (List.getElem?_eq_getElem hl) hb
  exact r
theorem listMeth {x : Str} {i : Nat} {ds : List V} {name : Str} {id : String} {np apos pos spos : Pos} {e : Expr} {d : V} {σ : Sp} {s : Shared} {Q : Flow → Shared → Prop} {E : Value → Shared → Prop} (ok : FmOk g f n) (S : St g f σ ρ s.heap) (hx : f.xs[i]? = some x) (hb : ρ[i]? = some (some (.li ds)))
    (slot : Slot "list" name id) (hty : typeOf (.builtin id) = pure (.type "method_descriptor")) (he : Ev g f ρ e (.ok d))
    (q : ∀ v h' tk, Kf f.fs s.heap h' → St g f σ ρ h' → Rep g.C h' (XOf f σ ρ) d v → wpAny (model g.prog g.w) f.A (call (.builtin id) [.ref (σ.α i), v]) (fun v s' => match v with | .ref _ => False | _ => Q .next s') E { s with heap := h', toks := tk })
    (hline : (apos.endLine == pos.line) = true) (hh : starEach [e] f.env = [(false, eval e f.env)]) (hi : interactive f.env = false) (hs : swapsWith (.Call (.Attribute (.Name x np) name apos) [e] [] pos) none spos.line f.env = pure false) :
    wpAny (model g.prog g.w) f.A (exec (.Expr (.Call (.Attribute (.Name x np) name apos) [e] [] pos) spos) f.env) Q E s := by
  refine wpAny_Expr ?_ hi hs
  refine wpAny_Call_method rfl (by rw [hh]; rfl) hline PySem.F.plainAttrs_list slot hty (ownName ok S hx hb rfl ?_)
  obtain ⟨vs, m, ha, _⟩ := S.li hb
  refine ⟨⟨_, ha, rfl⟩, fun a e => by injection e with e; subst e; exact ⟨_, ha, rfl⟩, ?_⟩
  refine call_raw ok kept_builtin S (Evs.cons ok he Evs.nil hh) (fun vs h' tk k rr => ?_) hh rfl
  simp only [RepL] at rr
  obtain ⟨v, r, rfl, rv, rfl⟩ := rr
  exact q v h' tk k (S.mono ok k) rv
theorem Ex.append {x : Str} {np apos pos spos : Pos} {e : Expr} {rest : List Stmt} {ds : List V} {d : V} {O : Out → Prop} (ok : FmOk g f n) (i : Nat) (hx : f.xs[i]? = some x) (hb : ρ[i]? = some (some (.li ds))) (he : Ev g f ρ e (.ok d)) (hl : ds.length + 1 ≤ sizeLine)
    (h : Ex g f (ρ.set i (some (.li (ds ++ [d])))) rest O) (hline : (apos.endLine == pos.line) = true := by rfl) (hh : starEach [e] f.env = [(false, eval e f.env)] := by rfl) (hi : interactive f.env = false := by rfl)
    (hs : swapsWith (.Call (.Attribute (.Name x np) "append" apos) [e] [] pos) none spos.line f.env = pure false := by rfl) :
    Ex g f ρ (.Expr (.Call (.Attribute (.Name x np) "append" apos) [e] [] pos) spos :: rest) O := fun σ s Q E S q ex => by
  refine wpAny_execs_cons (listMeth ok S hx hb slot_list_append type_list_append he (fun v h' tk k S' rv => ?_) hline hh hi hs)
  obtain ⟨vs, m, ha, rl, hlen⟩ := S'.li hb
  have hvl : vs.length = ds.length := RepL.length rl
  refine wpAny_list_append_plain (s := { s with heap := h', toks := tk }) (items := vs.toArray) ⟨m, ha⟩ (fun h₂ ⟨m', ha'⟩ hs' => ?_) (by simpa using hlen)
  have ha'' : h₂.get? (σ.α i) = some (lobj (vs ++ [v]) m') := by rw [ha']; simp [lobj]
  have aX : XOf f σ ρ (σ.α i) := .inr (.inr ⟨i, ⟨_, hb, rfl⟩, rfl⟩)
  have kx : KX (XOf f σ ρ) h' h₂ := fun c o ec nc => (hs'.2 c fun z => nc (z ▸ aX)).trans ec
  obtain ⟨S₂, T₂⟩ := S'.turn ok hb rfl (b' := .li (ds ++ [d])) rfl hs' fun m₀ x₀ a₀ hv₀ ea => by
    subst ea
    refine ⟨hv₀.1, vs ++ [v], m', ha'', ?_, by rw [List.length_append]; simp [hvl]; omega⟩
    have sub : ∀ b, XOf f σ (ρ.set i (some (.li (ds ++ [d])))) b → XOf f σ ρ b ∨ h'.get? b = none := fun b hb' => .inl ((X_set hb rfl rfl b).mp hb')
    refine RepL.append (rl.mono kx sub) ?_
    simp only [RepL]
    exact ⟨v, [], rfl, rv.mono kx sub, rfl⟩
  exact Ex.after (σ := σ) (ρ := ρ) (s := s) h S₂ (k.trn.trans T₂) q ex
theorem Ex.extend {x : Str} {np apos pos spos : Pos} {e : Expr} {rest : List Stmt} {ds es : List V} {d : V} {O : Out → Prop} (ok : FmOk g f n) (i : Nat) (hx : f.xs[i]? = some x) (hb : ρ[i]? = some (some (.li ds))) (he : Ev g f ρ e (.ok d)) (hd : d = .list es ∨ d = .tup es) (hl : ds.length + es.length ≤ sizeLine)
    (h : Ex g f (ρ.set i (some (.li (ds ++ es)))) rest O) (hline : (apos.endLine == pos.line) = true := by rfl) (hh : starEach [e] f.env = [(false, eval e f.env)] := by rfl) (hi : interactive f.env = false := by rfl)
    (hs : swapsWith (.Call (.Attribute (.Name x np) "extend" apos) [e] [] pos) none spos.line f.env = pure false := by rfl) :
    Ex g f ρ (.Expr (.Call (.Attribute (.Name x np) "extend" apos) [e] [] pos) spos :: rest) O := fun σ s Q E S q ex => by
  refine wpAny_execs_cons (listMeth ok S hx hb PySem.F.slot_list_extend PySem.F.type_list_extend he (fun v h' tk k S' rv => ?_) hline hh hi hs)
  obtain ⟨vs, m, ha, rl, hlen⟩ := S'.li hb
  have hvl : vs.length = ds.length := RepL.length rl
  have aX : XOf f σ ρ (σ.α i) := .inr (.inr ⟨i, ⟨_, hb, rfl⟩, rfl⟩)
  have fin : ∀ us b, v = .ref b → RepL g.C h' (XOf f σ ρ) es us → us.length ≤ sizeLine →
      wpAny (model g.prog g.w) f.A (execs rest f.env) Q E { s with heap := h'.update (σ.α i) (Obj.mapSeq fun x => x ++ us.toArray), toks := tk } := by
    intro us b _ ru hul
    have hul' : us.length = es.length := RepL.length ru
    have hs' : Heap.SameBut (σ.α i) h' (h'.update (σ.α i) (Obj.mapSeq fun x => x ++ us.toArray)) := Heap.SameBut.update ..
    have ha'' : ∃ m', (h'.update (σ.α i) (Obj.mapSeq fun x => x ++ us.toArray)).get? (σ.α i) = some (lobj (vs ++ us) m') := by
      refine ⟨if (vs.toArray ++ us.toArray).size == vs.toArray.size then m else m + 1, ?_⟩
      rw [Heap.get?_update_self _ ha (by simp [lobj, Obj.mapSeq, Obj.isFreed])]
      simp [lobj, Obj.mapSeq]
    obtain ⟨m', ha''⟩ := ha''
    have kx : KX (XOf f σ ρ) h' (h'.update (σ.α i) (Obj.mapSeq fun x => x ++ us.toArray)) := fun c o ec nc => (hs'.2 c fun z => nc (z ▸ aX)).trans ec
    obtain ⟨S₂, T₂⟩ := S'.turn ok hb rfl (b' := .li (ds ++ es)) rfl hs' fun m₀ x₀ a₀ hv₀ ea => by
      subst ea
      refine ⟨hv₀.1, vs ++ us, m', ha'', ?_, by rw [List.length_append]; omega⟩
      have sub : ∀ b, XOf f σ (ρ.set i (some (.li (ds ++ es)))) b → XOf f σ ρ b ∨ h'.get? b = none := fun b hb' => .inl ((X_set hb rfl rfl b).mp hb')
      exact RepL.append (rl.mono kx sub) (ru.mono kx sub)
    exact Ex.after (σ := σ) (ρ := ρ) (s := s) h S₂ (k.trn.trans T₂) q ex
  have door : ¬(!vs.toArray.isEmpty && Builtin.List.listTooLong (vs.toArray.size + es.length)) = true := by
    unfold Builtin.List.listTooLong
    simp [hvl]
    intro _; omega
  have door' : ∀ us : List Value, us.length = es.length → ¬(!vs.toArray.isEmpty && Builtin.List.listTooLong (vs.toArray.size + us.toArray.size)) = true := fun us hu => by
    have e : us.toArray.size = es.length := by simp [hu]
    rw [e]; exact door
  rcases hd with rfl | rfl
  · simp only [Rep] at rv
    obtain ⟨b, us, m2, rfl, hbb, ru, hul⟩ := rv
    have hul' : us.length = es.length := RepL.length ru
    refine call_meets (s := { s with heap := h', toks := tk }) PySem.F.slot_list_extend ⟨_, ha, rfl⟩ PySem.F.entry_list_extend (PySem.F.args_list_extend_2 _ _) (PySem.AutoSeq1.list_extend_list_list_0 (σ.α i) vs.toArray m b us.toArray m2 (door' us hul') (by simpa using hlen) (by simp; omega)) ⟨ha, hbb.1, ?_⟩
    exact fin us b rfl ru hul
  · simp only [Rep] at rv
    obtain ⟨b, us, m2, rfl, hbb, ru, hul⟩ := rv
    have hul' : us.length = es.length := RepL.length ru
    refine call_meets (s := { s with heap := h', toks := tk }) PySem.F.slot_list_extend ⟨_, ha, rfl⟩ PySem.F.entry_list_extend (PySem.F.args_list_extend_2 _ _) (PySem.AutoSeq1.list_extend_list_tuple_0 (σ.α i) vs.toArray m b us.toArray m2 (door' us hul') (by simpa using hlen) (by simp; omega)) ⟨ha, hbb.1, ?_⟩
    exact fin us b rfl ru hul
end
def Bi (g : GI) (n : Nat) (fv : Value) (ds : List V) (r : Res) : Prop :=
  ∀ (f : Fm) (ρ : En) (σ : Sp) (s : Shared) (Q : Value → Shared → Prop) (E : Value → Shared → Prop) (vs : List Value), FmOk g f n → St g f σ ρ s.heap →
    RepL g.C s.heap (XOf f σ ρ) ds vs →
    (∀ v d h' tk, r = .ok d → Kf f.fs s.heap h' → Rep g.C h' (XOf f σ ρ) d v → Q v { s with heap := h', toks := tk }) →
    (∀ c e' h' tk, r = .exc c → Fly f s.heap h' e' c → E (.ref e') { s with heap := h', toks := tk }) →
    wpAny (model g.prog g.w) f.A (call fv vs) Q E s
section
variable {g : GI} {f : Fm} {n m : Nat} {ρ : En}
theorem Ev.callB {x : Str} {np pos : Pos} {fv : Value} {e : Expr} {es : List Expr} {ds : List V} {r : Res} (ok : FmOk g f n) (hx : f.env.kindOf x = some .globalImplicit) (gv : GV g x fv) (hk : Kept g fv)
    (ha : Evs g f ρ (e :: es) (.ok ds)) (hf : Bi g n fv ds r)
    (hh : starEach (e :: es) f.env = (false, eval e f.env) :: starEach es f.env := by rfl) (hplain : (backTo pos (starEach es f.env)).any (·.1) = false := by rfl) :
    Ev g f ρ (.Call (.Name x np) (e :: es) [] pos) r := fun σ s Q E S q ex => by
  refine wpAny_Call_ofName (gv f n np s _ _ ok hx S.cs ?_)
  refine call_raw (first := []) ok hk S ha (fun vs h' tk k rr => ?_) hh hplain
  exact hf f ρ σ { s with heap := h', toks := tk } Q E vs ok (S.mono ok k) rr (fun v d h'' tk' e k' r => q v d h'' tk' e (k.trans k') r) fun c e' h'' tk' e fl => ex c e' h'' tk' e (fl.trans k)
theorem line_fits {k : Nat} (h : k ≤ sizeLine) : k ≤ 16777216 := h
theorem Bi.lenList {ds : List V} : Bi g n (.builtin "len") [.list ds] (.ok (.int ds.length)) := fun f ρ σ s Q E vs ok S hr q ex => by
  simp only [RepL, Rep] at hr
  obtain ⟨v, r, rfl, ⟨a, us, m, rfl, ha, rl, hl⟩, rfl⟩ := hr
  have e : us.length = ds.length := RepL.length rl
  have := line_fits hl
  refine call_len_list (items := us.toArray) ⟨_, ha.1, rfl, m, rfl⟩ (by simp; omega) (q _ _ s.heap _ rfl (Kf.refl _ _) ?_)
  simp only [Rep]; exact ⟨s.toks + 1, by simp [e]⟩
theorem Bi.lenScr {ns : List Int} : Bi g n (.builtin "len") [.scr ns] (.ok (.int ns.length)) := fun f ρ σ s Q E vs ok S hr q ex => by
  simp only [RepL, Rep] at hr
  obtain ⟨v, r, rfl, ⟨a, o, us, m, rfl, ha, hc, hd, hi, hl⟩, rfl⟩ := hr
  have e : us.length = ns.length := hi.length
  have := line_fits hl
  refine call_len_list (items := us.toArray) ⟨_, ha.1, hc, m, hd⟩ (by simp; omega) (q _ _ s.heap _ rfl (Kf.refl _ _) ?_)
  simp only [Rep]; exact ⟨s.toks + 1, by simp [e]⟩
theorem Bi.lenTup {ds : List V} : Bi g n (.builtin "len") [.tup ds] (.ok (.int ds.length)) := fun f ρ σ s Q E vs ok S hr q ex => by
  simp only [RepL, Rep] at hr
  obtain ⟨v, r, rfl, ⟨a, us, m, rfl, ha, rl, hl⟩, rfl⟩ := hr
  have e : us.length = ds.length := RepL.length rl
  have := line_fits hl
  refine PyProof.Rows.len_tuple (items := us.toArray) ⟨_, ha.1, rfl, m, rfl⟩ (by simp; omega) (q _ _ s.heap _ rfl (Kf.refl _ _) ?_)
  simp only [Rep]; exact ⟨s.toks + 1, by simp [e]⟩
theorem Bi.lenBytes {b : List UInt8} : Bi g n (.builtin "len") [.bytes b] (.ok (.int b.length)) := fun f ρ σ s Q E vs ok S hr q ex => by
  simp only [RepL, Rep] at hr
  obtain ⟨v, r, rfl, ⟨⟨t, rfl⟩, hl⟩, rfl⟩ := hr
  have := line_fits hl
  refine len_bytes (by simp; omega) (q _ _ s.heap _ rfl (Kf.refl _ _) ?_)
  simp only [Rep]; exact ⟨s.toks + 1, by simp⟩
theorem ints_of : ∀ {ns : List Int} {vs : List Value} {h : Heap} {X : Addr → Prop}, RepL g.C h X (ns.map .int) vs → IntsAre vs ns
  | [], vs, h, X, r => by simp only [List.map_nil, RepL] at r; subst r; exact .nil
  | k :: ns, vs, h, X, r => by
    simp only [List.map_cons, RepL, Rep] at r
    obtain ⟨v, u, rfl, ⟨t, rfl⟩, r⟩ := r
    exact .cons _ _ (ints_of r)
def bytesOf (ns : List Int) : List UInt8 := ns.map fun n => n.toNat.toUInt8
theorem Bi.bytesL {ns : List Int} (hn : ∀ k ∈ ns, 0 ≤ k ∧ k < 256) : Bi g n (.type "bytes") [.list (ns.map .int)] (.ok (.bytes (bytesOf ns))) := fun f ρ σ s Q E vs ok S hr q ex => by
  simp only [RepL, Rep] at hr
  obtain ⟨v, r, rfl, ⟨a, us, m, rfl, ha, rl, hl⟩, rfl⟩ := hr
  refine call_bytes_ints (vs := us) ⟨_, ha.1, rfl, m, rfl⟩ (ints_of rl) hn hl ok.hd fun h' t k hk => ?_
  refine q _ _ h' k rfl (Kf.of_keeps hk) ?_
  have e : us.length = ns.length := by rw [RepL.length rl]; simp
  simp only [Rep]
  exact ⟨⟨t, rfl⟩, by unfold bytesOf; rw [List.length_map, ← e]; exact hl⟩
end
theorem slot_bytes_lt : Slot "bytes" (cmpInfo .Lt).2.1 "bytes.__lt__" :=
  .of (owner := "bytes") (n := "__lt__") (by rw [typeLookup_type, builtinLookup_eq_fast]; kernel_rfl) (by decide +kernel) (by decide +kernel) (by decide +kernel)
    (by first | exact .inl (by decide +kernel) | exact .inr (by decide +kernel)) (by rw [isSubtype_type]; kernel_rfl)
theorem entry_bytes_lt : entryFor table "bytes.__lt__" = some Builtin.«bytes.__lt__» := entryFor_of_tree (by kernel_rfl)
theorem args_bytes_lt_2 (a b : Value) : argsOk "bytes.__lt__" ⟨[a, b], []⟩ := by
  unfold argsOk; rw [signature?_of (id := "bytes.__lt__") (n := ['_', '_', 't', 'l', '_', '_']) (o := ['s', 'e', 't', 'y', 'b']) (by kernel_rfl) FB.owner_bytes]; kernel_rfl
theorem slot_bytes_gt : Slot "bytes" (cmpInfo .Gt).2.1 "bytes.__gt__" :=
  .of (owner := "bytes") (n := "__gt__") (by rw [typeLookup_type, builtinLookup_eq_fast]; kernel_rfl) (by decide +kernel) (by decide +kernel) (by decide +kernel)
    (by first | exact .inl (by decide +kernel) | exact .inr (by decide +kernel)) (by rw [isSubtype_type]; kernel_rfl)
theorem entry_bytes_gt : entryFor table "bytes.__gt__" = some Builtin.«bytes.__gt__» := entryFor_of_tree (by kernel_rfl)
theorem args_bytes_gt_2 (a b : Value) : argsOk "bytes.__gt__" ⟨[a, b], []⟩ := by
  unfold argsOk; rw [signature?_of (id := "bytes.__gt__") (n := ['_', '_', 't', 'g', '_', '_']) (o := ['s', 'e', 't', 'y', 'b']) (by kernel_rfl) FB.owner_bytes]; kernel_rfl
def bord (a b : List UInt8) : Ordering := Builtin.Bytes.order a b
theorem gives_bytes_lt (b c : Array UInt8) (t u : Tok) : Gives (Builtin.«bytes.__lt__» ⟨[.bytes b t, .bytes c u], []⟩) (.val (.bool (bord b.toList c.toList == .lt))) := by
  refine .of_wp fun M A E s Q hq => ?_
  show wpAny M A (isInstance (.bytes c u) (.type "bytes") >>= fun r => _) _ E s
  refine wpAny_bind (wpAny_isInstance (typeIs_bytes s c u) F.sub_bytes_bytes ?_)
  exact wpAny_pure ⟨_, rfl, hq⟩
theorem gives_bytes_gt (b c : Array UInt8) (t u : Tok) : Gives (Builtin.«bytes.__gt__» ⟨[.bytes b t, .bytes c u], []⟩) (.val (.bool (bord b.toList c.toList == .gt))) := by
  refine .of_wp fun M A E s Q hq => ?_
  show wpAny M A (isInstance (.bytes c u) (.type "bytes") >>= fun r => _) _ E s
  refine wpAny_bind (wpAny_isInstance (typeIs_bytes s c u) F.sub_bytes_bytes ?_)
  exact wpAny_pure ⟨_, rfl, hq⟩
theorem op2_bb {g : GI} {n : Nat} {t : Value → Value → Sem Value} {a b : List UInt8} {c : Bool} (h : ∀ {A : Around} {E : Value → Shared → Prop} {s : Shared} {Q : Value → Shared → Prop} {x y : Tok}, Q (.bool c) s → wpAny (model g.prog g.w) A (t (.bytes a.toArray x) (.bytes b.toArray y)) Q E s) :
    Op2 g n t (.bytes a) (.bytes b) (.ok (.bool c)) := fun f ρ σ s Q E va vb ok S ra rb q ex => by
  simp only [Rep] at ra rb
  obtain ⟨⟨x, rfl⟩, _⟩ := ra
  obtain ⟨⟨y, rfl⟩, _⟩ := rb
  exact h (q _ _ s.heap s.toks rfl (Kf.refl _ _) (by simp only [Rep]))
theorem Op2.ltB {g : GI} {n : Nat} {a b : List UInt8} : Op2 g n (compareOp .Lt) (.bytes a) (.bytes b) (.ok (.bool (bord a b == .lt))) := op2_bb fun {A E s Q x y} h =>
  compareOp_gives (op := .Lt) (typeIs_bytes s _ _) (typeIs_bytes s _ _) slot_bytes_lt entry_bytes_lt (args_bytes_lt_2 _ _) (gives_bytes_lt _ _ _ _) (fun e => nomatch e) h
theorem Op2.gtB {g : GI} {n : Nat} {a b : List UInt8} : Op2 g n (compareOp .Gt) (.bytes a) (.bytes b) (.ok (.bool (bord a b == .gt))) := op2_bb fun {A E s Q x y} h =>
  compareOp_gives (op := .Gt) (typeIs_bytes s _ _) (typeIs_bytes s _ _) slot_bytes_gt entry_bytes_gt (args_bytes_gt_2 _ _) (gives_bytes_gt _ _ _ _) (fun e => nomatch e) h
mutual
def V.dep : V → Nat
  | .list l => V.depL l + 1
  | .tup l => V.depL l + 1
  | _ => 0
def V.depL : List V → Nat
  | [] => 0
  | d :: r => max (V.dep d) (V.depL r)
end
mutual
def V.sup : V → V → Bool
  | .int _, .int _ => true
  | .bool _, .bool _ => true
  | .bytes _, .bytes _ => true
  | .list a, .list b => V.supL a b
  | .tup a, .tup b => V.supL a b
  | .list _, .int _ => true
  | .int _, .list _ => true
  | _, _ => false
def V.supL : List V → List V → Bool
  | a :: r, b :: t => V.sup a b && V.supL r t
  | _, _ => true
end
mutual
def V.eqv : V → V → Bool
  | .int a, .int b => a == b
  | .bool a, .bool b => a == b
  | .bytes a, .bytes b => a == b
  | .list a, .list b => V.eqvL a b
  | .tup a, .tup b => V.eqvL a b
  | _, _ => false
def V.eqvL : List V → List V → Bool
  | [], [] => true
  | a :: r, b :: t => V.eqv a b && V.eqvL r t
  | _, _ => false
end
theorem V.eqvL_len : ∀ {a b : List V}, a.length ≠ b.length → V.eqvL a b = false
  | [], [], h => absurd rfl h
  | [], _ :: _, _ => rfl
  | _ :: _, [], _ => rfl
  | a :: r, b :: t, h => by
    simp only [V.eqvL]
    rw [V.eqvL_len (a := r) (b := t) (by simpa using h), Bool.and_false]
def eAt (ds es : List V) (j : Nat) : Bool := match ds[j]?, es[j]? with
  | some d, some e => V.eqv d e
  | _, _ => false
theorem eAt_all : ∀ (ds es : List V), ds.length = es.length → ((List.range ds.length).all (eAt ds es)) = V.eqvL ds es
  | [], [], _ => rfl
  | [], _ :: _, h => by simp at h
  | _ :: _, [], h => by simp at h
  | d :: ds, e :: es, h => by
    simp only [List.length_cons, List.range_succ_eq_map, List.all_cons, List.all_map, V.eqvL]
    rw [← eAt_all ds es (by simpa using h)]
    rfl
theorem eAt_min : ∀ (ds es : List V), ((List.range (min ds.length es.length)).all (eAt ds es) && ds.length == es.length) = V.eqvL ds es := fun ds es => by
  by_cases h : ds.length = es.length
  · rw [← eAt_all ds es h, h]; simp
  · rw [V.eqvL_len h]; simp [h]
section
variable {g : GI} {A : Around} {s : Shared} {X : Addr → Prop}
theorem EqAt.of_rc {y x : Value} {b : Bool} (h : SeqAt.RcAt A s y x b) (hs : (y == x) = true → b = true) (hf : ∀ t₁ t₂ f₁ f₂, ¬ (y = .float f₁ t₁ ∧ x = .float f₂ t₂)) : SeqAt.EqAt A s y x b := fun prog w E Q hq => by
  unfold eqBool
  refine wpAny_holding ?_
  refine wpAny_ite_split (fun hab => ?_) (fun _ => ?_)
  · exact wpAny_bind (wpAny_rule (wpAny_pure (by rw [hs hab] at hq; exact hq)))
  · cases y <;> cases x <;> first | exact wpAny_bind (h prog w E _ (wpAny_truthy_bool hq)) | exact absurd ⟨rfl, rfl⟩ (hf _ _ _ _)
theorem RcAt.bytes (b c : List UInt8) (t u : Tok) : SeqAt.RcAt A s (.bytes b.toArray t) (.bytes c.toArray u) (b == c) := fun prog w E Q h => eq_bytes (by simpa using h)
theorem supL_get : ∀ {ds es : List V} {j : Nat} {d e : V}, V.supL ds es = true → ds[j]? = some d → es[j]? = some e → V.sup d e = true
  | [], _, _, _, _, _, h, _ => by simp at h
  | _ :: _, [], _, _, _, _, _, h => by simp at h
  | d :: ds, e :: es, j, d', e', h, h1, h2 => by
    simp only [V.supL, Bool.and_eq_true] at h
    cases j with
    | zero => simp at h1 h2; subst h1; subst h2; exact h.1
    | succ j => simp at h1 h2; exact supL_get h.2 h1 h2
theorem depL_get : ∀ {ds : List V} {j : Nat} {d : V}, ds[j]? = some d → V.dep d ≤ V.depL ds
  | [], _, _, h => by simp at h
  | d :: ds, j, d', h => by
    simp only [V.depL]
    cases j with
    | zero => simp at h; subst h; exact Nat.le_max_left _ _
    | succ j => simp at h; exact Nat.le_trans (depL_get h) (Nat.le_max_right _ _)
mutual
theorem rep_eqv : ∀ {d e : V} {v : Value}, V.sup d e = true → Rep g.C s.heap X d v → Rep g.C s.heap X e v → V.eqv d e = true
  | .int _, .int _, _, _, r, q => by
    simp only [Rep] at r q; obtain ⟨t, rfl⟩ := r; obtain ⟨u, h⟩ := q; injection h with h; subst h; simp [V.eqv]
  | .bool _, .bool _, _, _, r, q => by
    simp only [Rep] at r q; subst r; injection q with q; subst q; simp [V.eqv]
  | .bytes _, .bytes _, _, _, r, q => by
    simp only [Rep] at r q; obtain ⟨⟨t, rfl⟩, _⟩ := r; obtain ⟨⟨u, h⟩, _⟩ := q; injection h with h; simp [V.eqv, h]
    simpa using congrArg Array.toList h
  | .list ds, .list es, _, hs, r, q => by
    simp only [Rep] at r q
    obtain ⟨a, vs, n, rfl, h1, r1, _⟩ := r
    obtain ⟨a', us, n', h, h2, r2, _⟩ := q
    injection h with h; subst h
    have := h1.1.symm.trans h2.1
    simp [lobj] at this
    obtain ⟨rfl, _⟩ := this
    simp only [V.eqv]
    simp only [V.sup] at hs
    exact repL_eqv hs r1 r2
  | .tup ds, .tup es, _, hs, r, q => by
    simp only [Rep] at r q
    obtain ⟨a, vs, n, rfl, h1, r1, _⟩ := r
    obtain ⟨a', us, n', h, h2, r2, _⟩ := q
    injection h with h; subst h
    have := h1.1.symm.trans h2.1
    simp [tobj] at this
    obtain ⟨rfl, _⟩ := this
    simp only [V.eqv]
    simp only [V.sup] at hs
    exact repL_eqv hs r1 r2
  | .list _, .int _, _, _, r, q => by
    simp only [Rep] at r q; obtain ⟨t, rfl⟩ := q; obtain ⟨_, _, _, h, _⟩ := r; cases h
  | .int _, .list _, _, _, r, q => by
    simp only [Rep] at r q; obtain ⟨t, rfl⟩ := r; obtain ⟨_, _, _, h, _⟩ := q; cases h
theorem repL_eqv : ∀ {ds es : List V} {vs : List Value}, V.supL ds es = true → RepL g.C s.heap X ds vs → RepL g.C s.heap X es vs → V.eqvL ds es = true
  | [], [], _, _, _, _ => rfl
  | [], _ :: _, _, _, r, q => by simp only [RepL] at r q; subst r; obtain ⟨_, _, h, _⟩ := q; cases h
  | _ :: _, [], _, _, r, q => by simp only [RepL] at r q; subst q; obtain ⟨_, _, h, _⟩ := r; cases h
  | d :: ds, e :: es, _, hs, r, q => by
    simp only [RepL] at r q
    obtain ⟨v, t, rfl, r1, r2⟩ := r
    obtain ⟨v', t', h, q1, q2⟩ := q
    injection h with h1 h2; subst h1; subst h2
    simp only [V.supL, Bool.and_eq_true] at hs
    simp only [V.eqvL, Bool.and_eq_true]
    exact ⟨rep_eqv hs.1 r1 q1, repL_eqv hs.2 r2 q2⟩
end
theorem nofl {d : V} {v : Value} {C : Addr} {h : Heap} (r : Rep C h X d v) : ∀ f t, v ≠ .float f t := fun f t e => by
  subst e
  cases d <;> simp [Rep] at r
theorem rc_rep : ∀ (k : Nat) (A : Around) (d e : V) (v u : Value), V.dep d ≤ k → A.units + k < cLine → V.sup d e = true → Rep g.C s.heap X d v → Rep g.C s.heap X e u → SeqAt.RcAt A s v u (V.eqv d e) := by
  intro k
  induction k with
  | zero =>
    intro A d e v u hd hu hs r q
    cases d with
    | int a =>
      cases e with
      | int b => simp only [Rep] at r q; obtain ⟨t, rfl⟩ := r; obtain ⟨t', rfl⟩ := q; simp only [V.eqv]; exact SeqAt.RcAt.int_int a t b t'
      | list es => simp only [Rep] at r q; obtain ⟨t, rfl⟩ := r; obtain ⟨a', us, n', rfl, h2, r2, _⟩ := q; simp only [V.eqv]; exact SeqAt.RcAt.int_list a t ⟨_, h2.1, rfl, n', rfl⟩ (by omega)
      | _ => simp [V.sup] at hs
    | bool a =>
      cases e with
      | bool b => simp only [Rep] at r q; subst r; subst q; simp only [V.eqv]; exact SeqAt.RcAt.bool_bool a b
      | _ => simp [V.sup] at hs
    | bytes a =>
      cases e with
      | bytes b => simp only [Rep] at r q; obtain ⟨⟨t, rfl⟩, _⟩ := r; obtain ⟨⟨t', rfl⟩, _⟩ := q; simp only [V.eqv]; exact RcAt.bytes a b t t'
      | _ => simp [V.sup] at hs
    | list _ => simp [V.dep] at hd
    | tup _ => simp [V.dep] at hd
    | _ => simp [V.sup] at hs
  | succ k ih =>
    have items : ∀ (A : Around) (ds es : List V) (vs us : List Value), V.depL ds ≤ k → A.units + (k + 1) < cLine → V.supL ds es = true → RepL g.C s.heap X ds vs → RepL g.C s.heap X es us →
        ∀ j (h1 : j < vs.toArray.size) (h2 : j < us.toArray.size), SeqAt.EqAt A.in1 s vs.toArray[j] us.toArray[j] (eAt ds es j) := by
      intro A ds es vs us hd hu hs r q j h1 h2
      have h1' : j < ds.length := by rw [← RepL.length r]; simpa using h1
      have h2' : j < es.length := by rw [← RepL.length q]; simpa using h2
      obtain ⟨v, ev, rv⟩ := r.get (List.getElem?_eq_getElem h1')
      obtain ⟨u, eu, ru⟩ := q.get (List.getElem?_eq_getElem h2')
      have e1 : vs.toArray[j] = v := by
        have := List.getElem?_eq_some_iff.mp ev; obtain ⟨_, z⟩ := this; simpa using z
      have e2 : us.toArray[j] = u := by
        have := List.getElem?_eq_some_iff.mp eu; obtain ⟨_, z⟩ := this; simpa using z
      rw [e1, e2]
      have ea : eAt ds es j = V.eqv ds[j] es[j] := by unfold eAt; rw [List.getElem?_eq_getElem h1', List.getElem?_eq_getElem h2']
      rw [ea]
      have sj := supL_get hs (List.getElem?_eq_getElem h1') (List.getElem?_eq_getElem h2')
      refine EqAt.of_rc (ih A.in1 _ _ v u (Nat.le_trans (depL_get (List.getElem?_eq_getElem h1')) hd) (by show A.units + 1 + k < cLine; omega) sj rv ru) (fun h => ?_) fun t₁ t₂ f₁ f₂ h => nofl rv _ _ h.1
      have := eq_of_beq h
      subst this
      exact rep_eqv sj rv ru
    intro A d e v u hd hu hs r q
    cases d with
    | list ds =>
      cases e with
      | list es =>
        simp only [Rep] at r q
        obtain ⟨a, vs, n, rfl, h1, r1, _⟩ := r
        obtain ⟨a', us, n', rfl, h2, r2, _⟩ := q
        simp only [V.eqv]
        simp only [V.sup] at hs
        have hd' : V.depL ds ≤ k := by simp only [V.dep] at hd; omega
        have l1 := RepL.length r1
        have l2 := RepL.length r2
        by_cases hl : ds.length = es.length
        · have := SeqAt.RcAt.lists (A := A) (s := s) (l := a) (b := a') (items := vs.toArray) (items2 := us.toArray) (e := eAt ds es) ⟨_, h1.1, rfl, n, rfl⟩ ⟨_, h2.1, rfl, n', rfl⟩ (by simp [l1, l2, hl]) (by omega) (items A ds es vs us hd' hu hs r1 r2)
          have e1 : (List.range vs.toArray.size).all (eAt ds es) = V.eqvL ds es := by rw [List.size_toArray, l1]; exact eAt_all ds es hl
          rwa [e1] at this
        · rw [V.eqvL_len hl]
          exact SeqAt.RcAt.lists_lengths ⟨_, h1.1, rfl, n, rfl⟩ ⟨_, h2.1, rfl, n', rfl⟩ (by simp [l1, l2, hl]) (by omega)
      | int b => simp only [Rep] at r q; obtain ⟨t, rfl⟩ := q; obtain ⟨a', us, n', rfl, h2, r2, _⟩ := r; simp only [V.eqv]; exact SeqAt.RcAt.list_int b t ⟨_, h2.1, rfl, n', rfl⟩ (by omega)
      | _ => simp [V.sup] at hs
    | tup ds =>
      cases e with
      | tup es =>
        simp only [Rep] at r q
        obtain ⟨a, vs, n, rfl, h1, r1, _⟩ := r
        obtain ⟨a', us, n', rfl, h2, r2, _⟩ := q
        simp only [V.eqv]
        simp only [V.sup] at hs
        have hd' : V.depL ds ≤ k := by simp only [V.dep] at hd; omega
        have l1 := RepL.length r1
        have l2 := RepL.length r2
        have := SeqAt.RcAt.tuples (A := A) (s := s) (l := a) (b := a') (items := vs.toArray) (items2 := us.toArray) (e := eAt ds es) ⟨_, h1.1, rfl, n, rfl⟩ ⟨_, h2.1, rfl, n', rfl⟩ (by omega) (items A ds es vs us hd' hu hs r1 r2)
        have e1 : ((List.range (min vs.toArray.size us.toArray.size)).all (eAt ds es) && vs.toArray.size == us.toArray.size) = V.eqvL ds es := by simp only [List.size_toArray, l1, l2]; exact eAt_min ds es
        rwa [e1] at this
      | _ => simp [V.sup] at hs
    | int a => exact ih A _ e v u (by simp [V.dep]) (by omega) hs r q
    | bool a => exact ih A _ e v u (by simp [V.dep]) (by omega) hs r q
    | bytes a => exact ih A _ e v u (by simp [V.dep]) (by omega) hs r q
    | none => simp [V.sup] at hs
    | name _ => simp [V.sup] at hs
    | scr _ => simp [V.sup] at hs
theorem eq_rep (k : Nat) (A : Around) (d e : V) (v u : Value) (hd : V.dep d ≤ k) (hu : A.units + k < cLine) (hs : V.sup d e = true) (r : Rep g.C s.heap X d v) (q : Rep g.C s.heap X e u) : SeqAt.EqAt A s v u (V.eqv d e) :=
  EqAt.of_rc (rc_rep k A d e v u hd hu hs r q) (fun h => by have := eq_of_beq h; subst this; exact rep_eqv hs r q) fun t₁ t₂ f₁ f₂ h => nofl r _ _ h.1
end
section
variable {g : GI} {n : Nat}
theorem Op2.eqV {d e : V} (k : Nat) (hd : V.dep d ≤ k) (hk : k ≤ 8 := by decide) (hn : 1 ≤ n) (hs : V.sup d e = true) : Op2 g n (compareOp .Eq) d e (.ok (.bool (V.eqv d e))) := fun f ρ σ s Q E va vb ok S ra rb q ex =>
  rc_rep (g := g) (s := s) k f.A d e va vb hd (by have := ok.room.2; omega) hs ra rb g.prog g.w E Q (q _ _ s.heap s.toks rfl (Kf.refl _ _) (by simp only [Rep]))
theorem rcne_rep (k : Nat) (A : Around) (s : Shared) {X : Addr → Prop} (d e : V) (v u : Value) (hd : V.dep d ≤ k) (hu : A.units + k < cLine) (hs : V.sup d e = true) (r : Rep g.C s.heap X d v) (q : Rep g.C s.heap X e u) : SeqAt.RcNeAt A s v u (!V.eqv d e) := by
  have items : ∀ (ds es : List V) (vs us : List Value), V.depL ds + 1 ≤ k → V.supL ds es = true → RepL g.C s.heap X ds vs → RepL g.C s.heap X es us →
      ∀ j (h1 : j < vs.toArray.size) (h2 : j < us.toArray.size), SeqAt.EqAt A.in1 s vs.toArray[j] us.toArray[j] (eAt ds es j) := by
    intro ds es vs us hd hs r q j h1 h2
    have h1' : j < ds.length := by rw [← RepL.length r]; simpa using h1
    have h2' : j < es.length := by rw [← RepL.length q]; simpa using h2
    obtain ⟨v, ev, rv⟩ := r.get (List.getElem?_eq_getElem h1')
    obtain ⟨u, eu, ru⟩ := q.get (List.getElem?_eq_getElem h2')
    have e1 : vs.toArray[j] = v := by
      have := List.getElem?_eq_some_iff.mp ev; obtain ⟨_, z⟩ := this; simpa using z
    have e2 : us.toArray[j] = u := by
      have := List.getElem?_eq_some_iff.mp eu; obtain ⟨_, z⟩ := this; simpa using z
    rw [e1, e2]
    have ea : eAt ds es j = V.eqv ds[j] es[j] := by unfold eAt; rw [List.getElem?_eq_getElem h1', List.getElem?_eq_getElem h2']
    rw [ea]
    exact eq_rep (k - 1) A.in1 _ _ v u (by have := depL_get (List.getElem?_eq_getElem h1'); omega) (by show A.units + 1 + (k - 1) < cLine; omega) (supL_get hs (List.getElem?_eq_getElem h1') (List.getElem?_eq_getElem h2')) rv ru
  cases d with
  | int a =>
    cases e with
    | int b => simp only [Rep] at r q; obtain ⟨t, rfl⟩ := r; obtain ⟨t', rfl⟩ := q; simp only [V.eqv]; exact SeqAt.RcNeAt.int_int a t b t'
    | list es => simp only [Rep] at r q; obtain ⟨t, rfl⟩ := r; obtain ⟨a', us, n', rfl, h2, r2, _⟩ := q; simp only [V.eqv]; exact SeqAt.RcNeAt.int_list a t ⟨_, h2.1, rfl, n', rfl⟩ (by omega)
    | _ => simp [V.sup] at hs
  | bool a =>
    cases e with
    | bool b => simp only [Rep] at r q; subst r; subst q; simp only [V.eqv]; exact SeqAt.RcNeAt.bool_bool a b
    | _ => simp [V.sup] at hs
  | bytes a =>
    cases e with
    | bytes b =>
      simp only [Rep] at r q; obtain ⟨⟨t, rfl⟩, _⟩ := r; obtain ⟨⟨t', rfl⟩, _⟩ := q; simp only [V.eqv]
      exact fun prog w E Q h => ne_bytes (by simpa [bne] using h)
    | _ => simp [V.sup] at hs
  | list ds =>
    cases e with
    | list es =>
      simp only [Rep] at r q
      obtain ⟨a, vs, n, rfl, h1, r1, _⟩ := r
      obtain ⟨a', us, n', rfl, h2, r2, _⟩ := q
      simp only [V.eqv]
      simp only [V.sup] at hs
      have hd' : V.depL ds + 1 ≤ k := by simp only [V.dep] at hd; omega
      have l1 := RepL.length r1
      have l2 := RepL.length r2
      by_cases hl : ds.length = es.length
      · have := SeqAt.RcNeAt.lists (A := A) (s := s) (l := a) (b := a') (items := vs.toArray) (items2 := us.toArray) (e := eAt ds es) ⟨_, h1.1, rfl, n, rfl⟩ ⟨_, h2.1, rfl, n', rfl⟩ (by simp [l1, l2, hl]) (by omega) (items ds es vs us hd' hs r1 r2)
        have e1 : (List.range vs.toArray.size).all (eAt ds es) = V.eqvL ds es := by rw [List.size_toArray, l1]; exact eAt_all ds es hl
        rwa [e1] at this
      · rw [V.eqvL_len hl]
        exact SeqAt.RcNeAt.lists_lengths ⟨_, h1.1, rfl, n, rfl⟩ ⟨_, h2.1, rfl, n', rfl⟩ (by simp [l1, l2, hl]) (by omega)
    | int b => simp only [Rep] at r q; obtain ⟨t, rfl⟩ := q; obtain ⟨a', us, n', rfl, h2, r2, _⟩ := r; simp only [V.eqv]; exact SeqAt.RcNeAt.list_int b t ⟨_, h2.1, rfl, n', rfl⟩ (by omega)
    | _ => simp [V.sup] at hs
  | tup ds =>
    cases e with
    | tup es =>
      simp only [Rep] at r q
      obtain ⟨a, vs, n, rfl, h1, r1, _⟩ := r
      obtain ⟨a', us, n', rfl, h2, r2, _⟩ := q
      simp only [V.eqv]
      simp only [V.sup] at hs
      have hd' : V.depL ds + 1 ≤ k := by simp only [V.dep] at hd; omega
      have l1 := RepL.length r1
      have l2 := RepL.length r2
      have := SeqAt.RcNeAt.tuples (A := A) (s := s) (l := a) (b := a') (items := vs.toArray) (items2 := us.toArray) (e := eAt ds es) ⟨_, h1.1, rfl, n, rfl⟩ ⟨_, h2.1, rfl, n', rfl⟩ (by omega) (items ds es vs us hd' hs r1 r2)
      have e1 : ((List.range (min vs.toArray.size us.toArray.size)).all (eAt ds es) && vs.toArray.size == us.toArray.size) = V.eqvL ds es := by simp only [List.size_toArray, l1, l2]; exact eAt_min ds es
      rwa [e1] at this
    | _ => simp [V.sup] at hs
  | none => simp [V.sup] at hs
  | name _ => simp [V.sup] at hs
  | scr _ => simp [V.sup] at hs
theorem Op2.neV {d e : V} (k : Nat) (hd : V.dep d ≤ k) (hk : k ≤ 8 := by decide) (hn : 1 ≤ n) (hs : V.sup d e = true) : Op2 g n (compareOp .NotEq) d e (.ok (.bool (!V.eqv d e))) := fun f ρ σ s Q E va vb ok S ra rb q ex =>
  rcne_rep (g := g) k f.A s d e va vb hd (by have := ok.room.2; omega) hs ra rb g.prog g.w E Q (q _ _ s.heap s.toks rfl (Kf.refl _ _) (by simp only [Rep]))
def ilt : List Int → List Int → Bool
  | [], [] => false
  | [], _ :: _ => true
  | _ :: _, [] => false
  | a :: r, b :: t => if a = b then ilt r t else decide (a < b)
theorem intsAre_get {vs : List Value} {ns : List Int} (h : IntsAre vs ns) {i : Nat} (hi : i < ns.length) : ∃ t, vs[i]? = some (.int ns[i] t) := by
  induction h generalizing i with
  | nil => simp at hi
  | cons k t r ih => cases i with
    | zero => exact ⟨t, rfl⟩
    | succ i => simpa using ih (by simpa using hi)
open SeqAt MeetsSeq MeetsSeq2 MeetsSeq3 in
open SeqAt MeetsSeq MeetsSeq2 MeetsSeq3 in
theorem Op2.isNotNone {d : V} {b : Bool} (hb : b = match d with | .none => false | _ => true) : Op2 g n (compareOp .IsNot) d .none (.ok (.bool b)) := fun f ρ σ s Q E va vb ok S ra rb q ex => by
  have fin : Q (.bool b) s := q _ _ s.heap s.toks rfl (Kf.refl _ _) (by simp only [Rep])
  simp only [Rep] at rb
  subst rb
  cases d with
  | none => simp only [Rep] at ra; subst ra; subst hb; exact isnot_none_none fin
  | bool c => simp only [Rep] at ra; subst ra; subst hb; exact isnot_bool_none fin
  | int c => simp only [Rep] at ra; obtain ⟨t, rfl⟩ := ra; subst hb; exact isnot_int_none fin
  | bytes c => simp only [Rep] at ra; obtain ⟨⟨t, rfl⟩, _⟩ := ra; subst hb; exact isnot_bytes_none fin
  | list c => simp only [Rep] at ra; obtain ⟨a, _, _, rfl, _⟩ := ra; subst hb; exact isnot_ref_none fin
  | tup c => simp only [Rep] at ra; obtain ⟨a, _, _, rfl, _⟩ := ra; subst hb; exact isnot_ref_none fin
  | name c => simp only [Rep] at ra; obtain ⟨x, dx, hs, tk, t, vs, n, m, rfl, _⟩ := ra; subst hb; exact isnot_ref_none fin
  | scr c => simp only [Rep] at ra; obtain ⟨a, _, _, _, rfl, _⟩ := ra; subst hb; exact isnot_ref_none fin
end
section
variable {g : GI} {f : Fm} {n : Nat} {ρ : En}
theorem Op2.addB {a b : List UInt8} (h : a.length + b.length ≤ 16777216) : Op2 g n (binaryOp .Add) (.bytes a) (.bytes b) (.ok (.bytes (a ++ b))) := fun f ρ σ s Q E va vb ok S ra rb q ex => by
  simp only [Rep] at ra rb
  obtain ⟨⟨x, rfl⟩, _⟩ := ra
  obtain ⟨⟨y, rfl⟩, _⟩ := rb
  refine KBy.add_bytes (by simpa using h) fun t' k => ?_
  exact q _ _ s.heap k rfl (Kf.refl _ _) (by simp only [Rep]; exact ⟨⟨t', by simp⟩, by rw [List.length_append]; exact h⟩)
theorem newL {σ : Sp} {h : Heap} {o : Obj} {ds : List V} {vs : List Value} {a : Addr} {m : Nat} {h' : Heap} {k : Kf f.fs h h'} (S : St g f σ ρ h) (ha : h'.get? a = some (lobj vs m)) (hn : h.get? a = none) (r : RepL g.C h (XOf f σ ρ) ds vs) (hl : vs.length ≤ sizeLine) :
    Rep g.C h' (XOf f σ ρ) (.list ds) (.ref a) := by
  simp only [Rep]
  exact ⟨a, vs, m, rfl, ⟨ha, S.fresh_off hn⟩, r.mono (k.kx S.fsX) fun b m => .inl m, hl⟩
theorem addL_core {a b : Addr} {vs us : List Value} {m m' : Nat} {A : Around} {s : Shared} {Q : Value → Shared → Prop} {E : Value → Shared → Prop} (ha : s.heap.get? a = some (lobj vs m)) (hb : s.heap.get? b = some (lobj us m')) (h : vs.length + us.length ≤ sizeLine)
    (q : Q (.ref s.heap.objs.size) { s with heap := s.heap.push { cls := .type "list", data := .seq (vs ++ us).toArray } }) : wpAny (model g.prog g.w) A (binaryOp .Add (.ref a) (.ref b)) Q E s := by
  refine P.add_list (items := vs.toArray) (items2 := us.toArray) ha hb ?_ (by simpa using h)
  simpa using q
theorem Op2.addL {ds es : List V} (h : ds.length + es.length ≤ sizeLine) : Op2 g n (binaryOp .Add) (.list ds) (.list es) (.ok (.list (ds ++ es))) := fun f ρ σ s Q E va vb ok S ra rb q ex => by
  simp only [Rep] at ra rb
  obtain ⟨a, vs, m, rfl, ha, rl, _⟩ := ra
  obtain ⟨b, us, m', rfl, hb, rl', _⟩ := rb
  have e1 := RepL.length rl
  have e2 := RepL.length rl'
  refine addL_core ha.1 hb.1 (by omega) (q _ _ _ s.toks rfl (push_kf _ _ _) ?_)
  exact newL (k := push_kf _ _ _) (o := default) (m := 0) S (Heap.get?_push_size _ rfl) (none_of_ge (Nat.le_refl _)) (rl.append rl') (by rw [List.length_append]; omega)
theorem EvO.addL {l r : Expr} {pos : Pos} {ds es : List V} (ok : FmOk g f n) (hl : Ev g f ρ l (.ok (.list ds))) (hr : Ev g f ρ r (.ok (.list es))) (h : ds.length + es.length ≤ sizeLine) : EvO g f ρ (.BinOp l .Add r pos) (.li (ds ++ es)) := fun σ s Q E S q => by
  refine wpAny_BinOp (hl σ s _ _ S (fun v d h₁ t₁ e k₁ r₁ => ?_) fun c e' h' tk ec => nomatch ec)
  injection e with e; subst e
  refine hr σ _ _ _ (S.mono ok k₁) (fun u d h₂ t₂ e k₂ r₂ => ?_) fun c e' h' tk ec => nomatch ec
  injection e with e; subst e
  have r₁' := rmono S r₁ k₂
  have k := k₁.trans k₂
  have S₂ := S.mono ok k
  simp only [Rep] at r₁' r₂
  obtain ⟨a, vs, m, rfl, ha, rl, _⟩ := r₁'
  obtain ⟨b, us, m', rfl, hb, rl', _⟩ := r₂
  have e1 := RepL.length rl
  have e2 := RepL.length rl'
  have hn : h₂.get? h₂.objs.size = none := none_of_ge (Nat.le_refl _)
  have hn0 : s.heap.get? h₂.objs.size = none := by
    cases z : s.heap.get? h₂.objs.size with
    | none => rfl
    | some o => obtain ⟨_, q⟩ := (k _ o z).2; rw [hn] at q; cases q
  refine addL_core (s := { s with heap := h₂, toks := t₂ }) ha.1 hb.1 (by omega) (q _ _ t₂ (k.trans (push_kf _ _ _)) hn0 ?_)
  exact own_of (m := 0) S₂ (push_kf _ _ _) (Heap.get?_push_size _ rfl) hn (rl.append rl') (by rw [List.length_append]; omega)
theorem RepL.flat {h : Heap} {X : Addr → Prop} {ds : List V} {vs : List Value} (r : RepL g.C h X ds vs) : ∀ k : Nat, RepL g.C h X (List.replicate k ds).flatten (List.replicate k vs).flatten
  | 0 => by simp [RepL]
  | k + 1 => by simp only [List.replicate_succ, List.flatten_cons]; exact r.append (RepL.flat r k)
theorem Op2.mulL {ds : List V} {x : Int} (hlo : -(2 ^ 63 : Int) ≤ x) (hhi : x < 2 ^ 63) (hsz : ds.length * x.toNat ≤ 2 ^ 24) : Op2 g n (binaryOp .Mult) (.list ds) (.int x) (.ok (.list (List.replicate x.toNat ds).flatten)) := fun f ρ σ s Q E va vb ok S ra rb q ex => by
  simp only [Rep] at ra rb
  obtain ⟨a, vs, m, rfl, ha, rl, _⟩ := ra
  obtain ⟨u, rfl⟩ := rb
  have e1 := RepL.length rl
  have ho := ha.1
  have hsz' : vs.toArray.size * x.toNat ≤ 2 ^ 24 := by simpa [e1] using hsz
  refine wpAny_binaryOp_repeat_ref (T := "list") (U := "int") (by decide) ⟨_, ho, rfl⟩ (fun s' => typeIs_int s' x u) noFill_list_mul F.fills_int_mul F.slot_int_rmul repeat_list F.slot_int_index.lookup
    (call_meets F.slot_int_rmul (typeIs_int s x u) F.entry_int_rmul (F.args_int_rmul_2 _ _) (lm_int_rmul_list_any x u a vs.toArray m none #[])
      ⟨ho, rfl, ⟨_, ho, rfl⟩, call_meets F.slot_list_mul ⟨_, ho, rfl⟩ F.entry_list_mul (F.args_list_mul_2 _ _)
        (lm_list_mul_any a vs.toArray m none #[] x u (by simp [Builtin.List.listFitsIndex]; omega) (by omega) (by simp [Builtin.List.listTooLong, sizeLine]; simp at hsz'; omega))
        ⟨ho, ?_⟩⟩)
  rw [listMul_foldl_if]
  refine q _ _ _ s.toks rfl (push_kf _ _ _) ?_
  refine newL (k := push_kf _ _ _) (o := default) (m := 0) S (Heap.get?_push_size _ rfl) (none_of_ge (Nat.le_refl _)) (rl.flat _) ?_
  have : (List.replicate x.toNat vs).flatten.length = x.toNat * vs.length := by simp
  rw [this, Nat.mul_comm, e1]
  exact hsz
theorem listOf_core {a : Addr} {o : Obj} {T : String} {vs : List Value} {m : Nat} {A : Around} {s : Shared} {Q : Value → Shared → Prop} {E : Value → Shared → Prop} (hT : T = "list" ∨ T = "tuple") (ho : s.heap.get? a = some o) (hc : o.cls = .type T) (hd : o.data = .seq vs.toArray m) (hl : vs.length ≤ sizeLine)
    (q : ∀ h' c, Kf [] s.heap h' → s.heap.get? s.heap.objs.size = none → h'.get? s.heap.objs.size = some (lobj vs c) → Q (.ref s.heap.objs.size) { s with heap := h' }) : wpAny (model g.prog g.w) A (call (.type "list") [.ref a]) Q E s :=
  call_list_seq a hT ho hc hd (fun h' c' hk hn => q h' c' (Kf.of_keeps hk) (none_of_ge (Nat.le_refl _)) hn) (by simpa using hl)
theorem Bi.listT {ds : List V} : Bi g n (.type "list") [.tup ds] (.ok (.list ds)) := fun f ρ σ s Q E vs ok S hr q ex => by
  simp only [RepL, Rep] at hr
  obtain ⟨v, r, rfl, ⟨a, us, m, rfl, ha, rl, hl⟩, rfl⟩ := hr
  refine listOf_core (.inr rfl) ha.1 rfl rfl hl fun h' c k hn hg => ?_
  have k' : Kf f.fs s.heap h' := k.mono fun _ hb => nomatch hb
  exact q _ _ h' s.toks rfl k' (newL (k := k') (o := default) S hg hn rl hl)
theorem EvO.listT {np pos : Pos} {e : Expr} {ds : List V} (ok : FmOk g f n) (hx : f.env.kindOf "list" = some .globalImplicit) (gv : GV g "list" (.type "list")) (he : Ev g f ρ e (.ok (.tup ds)))
    (hh : starEach [e] f.env = (false, eval e f.env) :: starEach [] f.env := by rfl) : EvO g f ρ (.Call (.Name "list" np) [e] [] pos) (.li ds) := fun σ s Q E S q => by
  refine wpAny_Call_ofName (gv f n np s _ _ ok hx S.cs ?_)
  refine call_raw (first := []) ok kept_type S (Evs.cons ok he Evs.nil hh) (fun vs h₁ tk k rr => ?_) hh rfl
  simp only [RepL, Rep] at rr
  obtain ⟨v, r, rfl, ⟨a, us, m, rfl, ha, rl, hl⟩, rfl⟩ := rr
  have S₁ := S.mono ok k
  refine listOf_core (s := { s with heap := h₁, toks := tk }) (.inr rfl) ha.1 rfl rfl hl fun h' c k₂ hn hg => ?_
  have k' : Kf f.fs h₁ h' := k₂.mono fun _ hb => nomatch hb
  have hn0 : s.heap.get? h₁.objs.size = none := by
    cases z : s.heap.get? h₁.objs.size with
    | none => rfl
    | some o => obtain ⟨_, q⟩ := (k _ o z).2; rw [show h₁.get? h₁.objs.size = none from hn] at q; cases q
  exact q _ h' tk (k.trans k') hn0 (own_of S₁ k' hg hn rl hl)
theorem Bi.tupL {ds : List V} : Bi g n (.type "tuple") [.list ds] (.ok (.tup ds)) := fun f ρ σ s Q E vs ok S hr q ex => by
  simp only [RepL, Rep] at hr
  obtain ⟨v, r, rfl, ⟨a, us, m, rfl, ha, rl, hl⟩, rfl⟩ := hr
  refine call_tuple_list (items := us.toArray) ⟨_, ha.1, rfl, m, rfl⟩ (fun h' hk => ?_) (by simpa using hl)
  have k : Kf f.fs s.heap h' := Kf.of_keeps hk
  have S' := S.mono ok k
  refine q _ _ _ s.toks rfl (k.trans (push_kf _ _ _)) ?_
  simp only [Rep]
  exact ⟨_, us, 0, rfl, ⟨Heap.get?_push_size _ rfl, S'.fresh_off (none_of_ge (Nat.le_refl _))⟩, rl.mono ((k.trans (push_kf _ _ _)).kx S.fsX) fun b m => .inl m, hl⟩
def blow (b : List UInt8) : List UInt8 := b.map Builtin.Bytes.toLower
theorem slot_bytes_lower : Slot "bytes" "lower" "bytes.lower" :=
  .of (owner := "bytes") (n := "lower") (by rw [typeLookup_type, builtinLookup_eq_fast]; kernel_rfl) (by decide +kernel) (by decide +kernel) (by decide +kernel)
    (by first | exact .inl (by decide +kernel) | exact .inr (by decide +kernel)) (by rw [isSubtype_type]; kernel_rfl)
theorem type_bytes_lower : typeOf (.builtin "bytes.lower") = pure (.type "method_descriptor") := by show builtinType _ = _; rw [builtinType_eq_fast]; kernel_rfl
theorem entry_bytes_lower : entryFor table "bytes.lower" = some Builtin.«bytes.lower» := entryFor_of_tree (by kernel_rfl)
theorem args_bytes_lower_1 (a : Value) : argsOk "bytes.lower" ⟨[a], []⟩ := by
  unfold argsOk; rw [signature?_of (id := "bytes.lower") (n := ['r', 'e', 'w', 'o', 'l']) (o := ['s', 'e', 't', 'y', 'b']) (by kernel_rfl) FB.owner_bytes]; kernel_rfl
theorem lower_meets (b : Array UInt8) (t : Tok) : Meets (Builtin.«bytes.lower» ⟨[.bytes b t], []⟩) (fun _ R s => b.size ≤ sizeLine ∧ R (.ok (.ret (.bytes (blow b.toList).toArray s.toks))) { s with toks := s.toks + 1 }) :=
  .of_wp fun prog w A R s h => by
    obtain ⟨hz, h⟩ := h
    show wpAny _ _ (mkBytes (blow b.toList).toArray >>= fun v => ret v) _ _ _
    refine wpAny_bind (wpAny_mkBytes (wpAny_pure ⟨_, rfl, h⟩) ?_)
    simp [blow]; exact hz
theorem lower_core {b : List UInt8} {t : Tok} {A : Around} {s : Shared} {Q : Value → Shared → Prop} {E : Value → Shared → Prop} {pos : Pos} (hl : b.length ≤ sizeLine) (q : ∀ t' k, Q (.bytes (blow b).toArray t') { s with toks := k }) :
    wpAny (model g.prog g.w) A (callWith pos (.builtin "bytes.lower") [.bytes b.toArray t] [] []) Q E s :=
  seqMethod0_meets slot_bytes_lower entry_bytes_lower (typeIs_bytes s _ _) (args_bytes_lower_1 _) (lower_meets _ _) ⟨by simpa using hl, q _ _⟩
theorem Ev.lower {o : Expr} {apos pos : Pos} {b : List UInt8} (ok : FmOk g f n) (ho : Ev g f ρ o (.ok (.bytes b))) (hbase : attributeBase o "lower" f.env (eval o f.env) = eval o f.env := by rfl)
    (hline : (apos.endLine == pos.line) = true := by rfl) : Ev g f ρ (.Call (.Attribute o "lower" apos) [] [] pos) (.ok (.bytes (blow b))) := fun σ s Q E S q ex => by
  refine wpAny_Call_method hbase rfl hline FB.plainAttrs_bytes slot_bytes_lower type_bytes_lower (ho σ s _ _ S (fun v d h' tk ed k r => ?_) fun c e' h' tk ec => nomatch ec)
  injection ed with ed; subst ed
  simp only [Rep] at r
  obtain ⟨⟨t, rfl⟩, hl⟩ := r
  refine ⟨rfl, (fun a e => nomatch e), ?_⟩
  refine lower_core (s := { s with heap := h', toks := tk }) hl fun t' k' => q _ _ h' k' rfl k ?_
  simp only [Rep]
  exact ⟨⟨t', rfl⟩, by unfold blow; rw [List.length_map]; exact hl⟩
end
theorem setItem_exact {prog : Program} {w : World} {A : Around} {E : Value → Shared → Prop} {s : Shared} {l : Addr} {vs : List Value} {n : Nat} {k : Int} {t : Tok} {v : Value} {Q : Unit → Shared → Prop} (ho : s.heap.get? l = some (lobj vs n))
    (hi : vidx vs.length k < vs.length) (h1 : -(vs.length : Int) ≤ k) (hz : vs.length ≤ sizeLine)
    (hQ : ∀ h' n', h'.get? l = some (lobj (vs.set (vidx vs.length k) v) n') → Heap.SameBut l s.heap h' → Q () { s with heap := h' }) :
    wpAny (model prog w) A (setItem (.ref l) (.int k t) v) Q E s := by
  have hl : s.heap.IsList l vs.toArray := ⟨_, ho, rfl, n, rfl⟩
  have hd : (lobj vs n).data = .seq vs.toArray n := rfl
  have hz' : vs.length ≤ 2 ^ 24 := hz
  have fit : Builtin.List.listFitsIndex k = true := by
    unfold vidx at hi
    split at hi
    · exact fitsIndex_neg (by omega) (by omega)
    · exact fitsIndex_of (by omega) (by omega)
  have hidx := seqIdx hi h1
  unfold setItem
  try with_reducible refine wpAny_holding ?_
  first | refine wpAny_bind (wpAny_pure ?_) | skip
  refine wpAny_bind (wpAny_sequenceKey hl.typeIs (by decide) ?_)
  refine wpAny_bind (wpAny_callSpecial?_slot (name := Str.ofString "__setitem__") hl.typeIs slot_list_setitem
    (wpAny_call_entry slot_list_setitem hl.typeIs entry_list_setitem ?_ (args_list_setitem _ _ _)))
  show wpAny _ _ (Builtin.List.listSubscript? (.int k t) >>= _) _ _ s
  refine wpAny_bind (wpAny_listSubscript_int fit ?_)
  have hx : vs[vidx vs.length k]? = some vs[vidx vs.length k] := List.getElem?_eq_getElem hi
  have fin : ∀ j, j = vidx vs.length k → Q () { s with heap := s.heap.update l (Obj.mapSeq (·.setIfInBounds j v)) } := by
    rintro j rfl
    refine hQ _ (if (vs.toArray.setIfInBounds (vidx vs.length k) v).size == vs.toArray.size then n else n + 1) ?_ (Heap.SameBut.update ..)
    rw [Heap.get?_update_self _ ho (by simp [lobj, Obj.mapSeq, Obj.isFreed])]
    simp [lobj, Obj.mapSeq]
  cases k with
  | ofNat j =>
    have ej : vidx vs.length (Int.ofNat j) = j := by
      unfold vidx
      have : ¬ (Int.ofNat j < 0) := Int.not_lt.mpr (Int.natCast_nonneg j)
      rw [if_neg this]; rfl
    rw [ej] at hi
    have hx : vs[j]? = some vs[j] := List.getElem?_eq_getElem hi
    show wpAny _ _ ((seqItemAt l j >>= fun r => pure (r.map (j, ·))) >>= _) _ _ s
    refine wpAny_bind (wpAny_bind (wpAny_seqItemAt ho hd (wpAny_pure ?_)))
    have hx' : vs.toArray[j]? = some vs[j] := by simpa using hx
    rw [hx']
    show wpAny _ _ (setSeqItemAt l j v >>= _) _ _ s
    refine wpAny_bind (wpAny_setSeqItemAt ho hd ?_)
    first
      | exact wpAny_bind (wpAny_pure (wpAny_pure ⟨.none, rfl, wpAny_pure (fin j ej.symm)⟩))
      | exact wpAny_pure ⟨.none, rfl, wpAny_pure (fin j ej.symm)⟩
  | negSucc j =>
    show wpAny _ _ ((Builtin.List.listItems (.ref l) >>= fun xs => pure ((seqIndex? (Int.negSucc j) xs.size).bind fun i => xs[i]?.map (i, ·))) >>= _) _ _ s
    refine wpAny_bind (wpAny_bind ?_)
    show wpAny _ _ (seqItems? (.ref l) >>= _) _ _ s
    refine wpAny_bind (wpAny_seqItems ho hd (wpAny_pure (wpAny_pure ?_)))
    rw [List.size_toArray, hidx]
    have hx' : vs.toArray[vidx vs.length (Int.negSucc j)]? = some vs[vidx vs.length (Int.negSucc j)] := by simpa using hx
    simp only [Option.bind_some, hx', Option.map_some]
    show wpAny _ _ (setSeqItemAt l _ v >>= _) _ _ s
    refine wpAny_bind (wpAny_setSeqItemAt ho hd ?_)
    first
      | exact wpAny_bind (wpAny_pure (wpAny_pure ⟨.none, rfl, wpAny_pure (fin _ rfl)⟩))
      | exact wpAny_pure ⟨.none, rfl, wpAny_pure (fin _ rfl)⟩
section
variable {g : GI} {f : Fm} {n : Nat} {ρ : En}
def LName (f : Fm) (ρ : En) (x : Str) (ds : List V) : Prop := ∃ i : Nat, f.xs[i]? = some x ∧ (ρ[i]? = some (some (B.li ds)) ∨ ρ[i]? = some (some (B.bo ds)))
theorem LName.li {x : Str} {ds : List V} (i : Nat) (hx : f.xs[i]? = some x) (hb : ρ[i]? = some (some (.li ds))) : LName f ρ x ds := ⟨i, hx, .inl hb⟩
theorem LName.bo {x : Str} {ds : List V} (i : Nat) (hx : f.xs[i]? = some x) (hb : ρ[i]? = some (some (.bo ds))) : LName f ρ x ds := ⟨i, hx, .inr hb⟩
theorem lname_at {x : Str} {ds : List V} {np : Pos} {σ : Sp} {s : Shared} {Q : Value → Shared → Prop} {E : Value → Shared → Prop} (ok : FmOk g f n) (S : St g f σ ρ s.heap) (hl : LName f ρ x ds)
    (h : ∀ a vs m, s.heap.get? a = some (lobj vs m) → a ∉ f.fs → RepL g.C s.heap (XOf f σ ρ) ds vs → vs.length ≤ sizeLine → Q (.ref a) s) : wpAny (model g.prog g.w) f.A (eval (.Name x np) f.env) Q E s := by
  obtain ⟨i, hx, hb | hb⟩ := hl
  · obtain ⟨vs, m, ha, r, hl⟩ := S.li hb
    have fr := S.fresh i ⟨_, hb, rfl⟩
    exact ownName ok S hx hb rfl (h _ vs m ha (own_off ok fr.1 fr.2.1) r hl)
  · obtain ⟨m, hns, hv⟩ := S.ex
    have hm := List.mem_of_getElem? hx
    obtain ⟨a', vs, k, e, e0, e1, r, hl⟩ := hv i x _ (Fm.nmx hx) hb
    refine wpAny_Name (wpAny_loadName_local ok.kind (ok.loc x hm) hns e (h a' vs k ((S.kE a' _ e0).1 e1) (fun hmem => ?_) r hl)) (ok.ndx hm)
    rw [Fm.fs_eq] at hmem
    rcases List.mem_cons.mp hmem with z | z
    · rw [z, ok.newL] at e0; cases e0
    · exact e1 z
theorem lname_arg {x : Str} {ds : List V} {np : Pos} {σ : Sp} {s : Shared} {pos : Pos} {Q : List Value → Shared → Prop} {E : Value → Shared → Prop} (ok : FmOk g f n) (S : St g f σ ρ s.heap) (hl : LName f ρ x ds)
    (h : ∀ a vs m, s.heap.get? a = some (lobj vs m) → a ∉ f.fs → RepL g.C s.heap (XOf f σ ρ) ds vs → vs.length ≤ sizeLine → Q [.ref a] s) :
    wpAny (model g.prog g.w) f.A (spliced (backTo pos (starEach [.Name x np] f.env))) Q E s := by
  have e : starEach [.Name x np] f.env = [(false, eval (.Name x np) f.env)] := rfl
  rw [e]
  refine spliced_cons (x := eval (.Name x np) f.env) (rest := backTo pos []) (lname_at ok S hl fun a vs m h1 h2 h3 h4 => spliced_nil (h a vs m h1 h2 h3 h4))
theorem Ev.lenN {x : Str} {ds : List V} {np np' pos : Pos} (ok : FmOk g f n) (hx : f.env.kindOf "len" = some .globalImplicit) (gv : GV g "len" (.builtin "len")) (hl : LName f ρ x ds) : Ev g f ρ (.Call (.Name "len" np) [.Name x np'] [] pos) (.ok (.int ds.length)) := fun σ s Q E S q ex => by
  refine wpAny_Call_ofName (gv f n np s _ _ ok hx S.cs ?_)
  refine callWith_of (P := fun h => g.K.In h) rfl (kept_looks kept_builtin) ?_
  have hpos := fun Q' E' => lname_arg (Q := Q') (E := E') (pos := pos) (np := np') ok S hl
  refine evalArgs_plain (x := eval (.Name x np') f.env) (rest := backTo pos []) (hpos _ _ fun a vs m h1 h2 h3 h4 => ⟨ok.G.X.keeps S.cs.keep, ?_⟩)
  have e : vs.length = ds.length := RepL.length h3
  have := line_fits h4
  refine call_len_list (items := vs.toArray) ⟨_, h1, rfl, m, rfl⟩ (by simp; omega) (q _ _ s.heap _ rfl (Kf.refl _ _) ?_)
  simp only [Rep]; exact ⟨s.toks + 1, by simp [e]⟩
theorem Ev.subN {x : Str} {ds : List V} {np pos : Pos} {e : Expr} {i : Int} {d : V} (ok : FmOk g f n) (hl : LName f ρ x ds) (he : Ev g f ρ e (.ok (.int i))) (hd : ds[vidx ds.length i]? = some d) (h1 : -(ds.length : Int) ≤ i)
    (hs : ∀ o i, subscripted e false o i = operate [o, i] (getItem o i) := by intro _ _; rfl) : Ev g f ρ (.Subscript (.Name x np) e pos) (.ok d) := fun σ s Q E S q ex => by
  refine Subscript_ (lname_at ok S hl fun a vs m ha hf rl hz => ?_)
  refine he σ s _ _ S (fun u d' h₂ t₂ ed k₂ r₂ => ?_) fun c e' h' tk ec => nomatch ec
  injection ed with ed; subst ed
  simp only [Rep] at r₂
  obtain ⟨t, rfl⟩ := r₂
  have rl' : RepL g.C h₂ (XOf f σ ρ) ds vs := rl.mono (k₂.kx S.fsX) fun b m => .inl m
  have ha' := (k₂ a _ ha).1 hf
  obtain ⟨v, ev, rv⟩ := rl'.get hd
  have hlen : vs.length = ds.length := RepL.length rl
  have hb : ds.length ≤ 2 ^ 24 := by rw [← hlen]; exact hz
  have hi : vidx ds.length i < ds.length := (List.getElem?_eq_some_iff.mp hd).1
  refine tail_any (s := { s with heap := h₂, toks := t₂ }) (T := "list") ⟨_, ha', rfl⟩ slot_list_getitem.lookup ?_ (hs _ _)
  have hlist : h₂.IsList a vs.toArray := ⟨_, ha', rfl, m, rfl⟩
  unfold vidx at hi ev
  split at hi
  · rename_i hneg
    rw [if_pos hneg] at ev
    exact wpAny_getItem_list_neg (s := { s with heap := h₂, toks := t₂ }) hlist hneg (by simpa [hlen] using h1) (by omega) (x := v) (by simpa [hlen] using ev) (q v _ h₂ t₂ rfl k₂ rv)
  · rename_i hpos
    rw [if_neg hpos] at ev
    exact wpAny_getItem_list (s := { s with heap := h₂, toks := t₂ }) hlist (by omega) (by omega) (x := v) (by simpa using ev) (q v _ h₂ t₂ rfl k₂ rv)
theorem RepL.set {h : Heap} {X : Addr → Prop} {d : V} {v : Value} : ∀ {ds : List V} {vs : List Value}, RepL g.C h X ds vs → Rep g.C h X d v → ∀ i, RepL g.C h X (ds.set i d) (vs.set i v)
  | [], _, r, _, _ => by simp only [RepL] at r; subst r; simp [RepL]
  | e :: ds, _, r, q, i => by
    simp only [RepL] at r
    obtain ⟨u, t, rfl, r1, r2⟩ := r
    cases i with
    | zero => simp only [List.set_cons_zero, RepL]; exact ⟨v, t, rfl, q, r2⟩
    | succ i => simp only [List.set_cons_succ, RepL]; exact ⟨u, _, rfl, r1, RepL.set r2 q i⟩
theorem Ex.store {x : Str} {np sp pos : Pos} {ei e : Expr} {rest : List Stmt} {ds : List V} {i : Int} {d : V} {O : Out → Prop} (ok : FmOk g f n) (j : Nat) (hx : f.xs[j]? = some x) (hb : ρ[j]? = some (some (.li ds))) (he : Ev g f ρ e (.ok d)) (hi : Ev g f ρ ei (.ok (.int i)))
    (hr : vidx ds.length i < ds.length) (h1 : -(ds.length : Int) ≤ i) (h : Ex g f (ρ.set j (some (.li (ds.set (vidx ds.length i) d)))) rest O)
    (hs : swapsWith e (some (.Subscript (.Name x np) ei sp)) pos.line f.env = pure false := by rfl) : Ex g f ρ (.Assign [.Subscript (.Name x np) ei sp] e pos :: rest) O := fun σ s Q E S q ex => by
  refine wpAny_execs_cons (wpAny_Assign_Subscript (he σ s _ _ S (fun v d' h₁ t₁ ed k₁ r₁ => ?_) fun c e' h' tk ec => nomatch ec) hs)
  injection ed with ed; subst ed
  have S₁ := S.mono ok k₁
  refine ownName (s := { s with heap := h₁, toks := t₁ }) ok S₁ hx hb rfl ?_
  refine hi σ _ _ _ S₁ (fun u d' h₂ t₂ ed k₂ r₂ => ?_) fun c e' h' tk ec => nomatch ec
  injection ed with ed; subst ed
  simp only [Rep] at r₂
  obtain ⟨t, rfl⟩ := r₂
  have S₂ := S₁.mono ok k₂
  obtain ⟨vs, m, ha, rl, hz⟩ := S₂.li hb
  have hlen : vs.length = ds.length := RepL.length rl
  refine setItem_exact (s := { s with heap := h₂, toks := t₂ }) ha (by rw [hlen]; exact hr) (by rw [hlen]; exact h1) hz fun h₃ m' ha' hs' => ?_
  have aX : XOf f σ ρ (σ.α j) := .inr (.inr ⟨j, ⟨_, hb, rfl⟩, rfl⟩)
  have kx : KX (XOf f σ ρ) h₂ h₃ := fun c o ec nc => (hs'.2 c fun z => nc (z ▸ aX)).trans ec
  have r₁' := rmono S r₁ k₂
  obtain ⟨S₃, T₃⟩ := S₂.turn ok hb rfl (b' := .li (ds.set (vidx ds.length i) d)) rfl hs' fun m₀ x₀ a₀ hv₀ ea => by
    subst ea
    refine ⟨hv₀.1, vs.set (vidx vs.length i) v, m', ha', ?_, by rw [List.length_set]; exact hz⟩
    have sub : ∀ b, XOf f σ (ρ.set j (some (.li (ds.set (vidx ds.length i) d)))) b → XOf f σ ρ b ∨ h₂.get? b = none := fun b hb' => .inl ((X_set hb rfl rfl b).mp hb')
    rw [hlen]
    exact (RepL.set rl r₁' _).mono kx sub
  exact Ex.after (σ := σ) (ρ := ρ) (s := s) h S₃ ((k₁.trans k₂).trn.trans T₃) q ex
end
def FnB (g : GI) (n : Nat) (fv : Value) (ds es : List V) (r : Res) : Prop :=
  ∀ (A : Around) (l : List Env) (Y : Addr → Prop) (vs us : List Value) (a : Addr) (mm : Nat) (s : Shared) (R : Result → Shared → Prop), g.Ok → A.frames = some l → A.handled = none → Room A n →
    CallSt g l s.heap → (∀ b ∈ fsOf l, Y b) → (∀ b, Y b → ∃ o, s.heap.get? b = some o) → (∀ b, Y b → g.H0.get? b = none) → RepL g.C s.heap Y ds vs → s.heap.get? a = some (lobj us mm) → a ∉ fsOf l → RepL g.C s.heap Y es us → us.length ≤ sizeLine →
    (∀ v d h' tk, r = .ok d → Kf (fsOf l) s.heap h' → Rep g.C h' Y d v → R (.ok (.ret v)) { s with heap := h', toks := tk }) →
    (∀ c e a0 h' tk, r = .exc c → Kf (fsOf l) s.heap h' → Heap.FlyingW (hideAll s.heap (fsOf l)) l e c a0 h' → R (.error (.ref e)) { s with heap := h', toks := tk }) →
    codeAny (model g.prog g.w) A (.call fv ⟨vs ++ [.ref a], []⟩) R s
def boEn (k : Nat) (ds es : List V) : En := ds.map (fun d => some (B.sh d)) ++ some (B.bo es) :: List.replicate k none
section
variable {g : GI} {f : Fm} {n m : Nat} {ρ : En}
theorem Ev.callBo {x y : Str} {np yp pos : Pos} {fv : Value} {e : Expr} {d : V} {es : List V} {r : Res} (ok : FmOk g f n) (hx : f.env.kindOf x = some .globalImplicit) (gv : GV g x fv) (hk : Kept g fv) (hm : m ≤ n)
    (he : Ev g f ρ e (.ok d)) (hy : LName f ρ y es) (hf : FnB g m fv [d] es r) (hh : starEach [e, .Name y yp] f.env = (false, eval e f.env) :: starEach [.Name y yp] f.env := by rfl) :
    Ev g f ρ (.Call (.Name x np) [e, .Name y yp] [] pos) r := fun σ s Q E S q ex => by
  refine wpAny_Call_ofName (gv f n np s _ _ ok hx S.cs ?_)
  refine callWith_of (P := fun h => g.K.In h) (by rw [hh]; rfl) (kept_looks hk) ?_
  rw [hh]
  refine evalArgs_plain (x := eval e f.env) (rest := backTo pos (starEach [.Name y yp] f.env)) ?_
  refine spliced_cons (x := eval e f.env) (rest := backTo pos (starEach [.Name y yp] f.env)) ?_
  refine he σ s _ _ S (fun v d' h₁ t₁ ed k₁ r₁ => ?_) fun c e' h' tk ec => nomatch ec
  injection ed with ed; subst ed
  have S₁ := S.mono ok k₁
  refine lname_arg (s := { s with heap := h₁, toks := t₁ }) ok S₁ hy fun a us mm ha hfs rl hz => ⟨ok.G.X.keeps S₁.cs.keep, wpAny_call ?_⟩
  exact hf f.A f.stack (XOf f σ ρ) [v] us a mm { s with heap := h₁, toks := t₁ } _ ok.G ok.fr ok.hd (ok.room.mono hm) (S₁.call ok) (fun b hb => S₁.fsX b (ok.sub b hb)) (fun b hb => S₁.Xex hb) (fun b hb => S₁.X0 ok hb) (by simp only [RepL]; exact ⟨v, [], rfl, r₁, rfl⟩) ha (fun m => hfs (ok.sub _ m)) rl hz
    (fun v d h' tk e k rep => q v d h' tk e (k₁.trans (k.mono ok.sub)) rep) fun c e a0 h' tk er k fl => ex c e h' tk er (Fly.trans k₁ (fly_of ok k fl))
end
def compFm (f : Fm) (scope : Scope) (cl : List (Str × Addr)) (C : Addr) (h₁ : Heap) (x : Str) (ys : List Str) : Fm :=
  ⟨compEnvC scope cl C f.env, f.A, f.stack, { f.env with frame := some f.L } :: f.outer, h₁, [x], ys⟩
theorem compFm_fs (f : Fm) (scope : Scope) (cl : List (Str × Addr)) (C : Addr) (h₁ : Heap) (x : Str) (ys : List Str) : (compFm f scope cl C h₁ x ys).fs = C :: f.fs := rfl
structure CompS (f : Fm) (scope : Scope) (x : Str) (ys : List Str) : Prop where
  cell : ∀ y ∈ scope.names, y.2 ≠ .cell
  kind : scope.kind = .function
  names : ∀ y ∈ scope.names, y.2 = .local → scope.names.lookup y.1 = some .local
  hx : scope.names.lookup x = some .local
  nd : (x :: ys).Nodup
  dx : ∀ y ∈ x :: ys, (y == ("__debug__" : Str)) = false
  cel : ∀ y ∈ ys, (relabel scope f.env).names.lookup y = some .cell
def FreeOk (g : GI) (f : Fm) (σ : Sp) (ρ : En) (scope : Scope) (cl : List (Str × Addr)) (ys : List Str) (fr : List V) (h : Heap) : Prop :=
  closureFor scope f.env = pure cl ∧ fr.length ≤ ys.length ∧ ∀ (j : Nat) (y : Str) (d : V), ys[j]? = some y → fr[j]? = some d → ∃ c v, cl.lookup y = some c ∧ h.IsCell c (some v) ∧ c ∉ f.fs ∧ Rep g.C h (XOf f σ ρ) d v
section
variable {g : GI} {f : Fm} {n : Nat} {ρ : En}
theorem frEn_get {fr : List V} {j : Nat} {b : B} (h : (fr.map fun d => some (B.bc d))[j]? = some (some b)) : ∃ d, fr[j]? = some d ∧ b = .bc d := by
  simp only [List.getElem?_map] at h
  cases q : fr[j]? with
  | none => rw [q] at h; cases h
  | some d => rw [q] at h; simp at h; exact ⟨d, rfl, h.symm⟩
theorem compEn_own {d : V} {fr : List V} {i : Nat} : ¬ Own (some (B.sh d) :: fr.map fun d => some (B.bc d)) i := by
  rintro ⟨b, hb, ho⟩
  cases i with
  | zero => simp at hb; subst hb; cases ho
  | succ j => simp only [List.getElem?_cons_succ] at hb; obtain ⟨d, _, rfl⟩ := frEn_get hb; cases ho
theorem comp_core {x : Str} {px pos : Pos} {iter elt : Expr} {scope : Scope} {ys : List Str} {cl : List (Str × Addr)} {fr items es : List V} {σ : Sp} {s : Shared} {I : Addr} {h₁ h₂ : Heap} {tk : Nat} {fp : List Addr} {P : Nat → Value → Prop} {Stt : Nat → Heap → Prop}
    {RR : Value → Addr → Result → Shared → Prop} {E : Value → Shared → Prop}
    (ok : FmOk g f n) (sc : CompS f scope x ys) (S₁ : St g f σ ρ h₁) (k₂ : Kf f.fs h₁ h₂) (hI : h₁.get? I = none) (exI : ∀ i h, Stt i h → ∃ o, h.get? I = some o) (W : Walks g.prog g.w f.A I fp [I] items.length P Stt) (st0 : Stt 0 h₂)
    (hfp : ∀ b ∈ fp, b = I ∨ (¬ XOf f σ ρ b ∧ ∃ o, h₁.get? b = some o)) (hP : ∀ i v d, P i v → items[i]? = some d → Rep g.C h₁ (XOf f σ ρ) d v)
    (hfr : FreeOk g f σ ρ scope cl ys fr h₁) (hlen : items.length ≤ sizeLine) (hes : es.length = items.length)
    (helt : ∀ (k : Nat) (d e : V), items[k]? = some d → es[k]? = some e → ∀ f' : Fm, FmOk g f' n → f'.env.scope = relabel scope f.env → f'.xs = [x] → f'.ys = ys → Ev g f' (some (.sh d) :: fr.map fun d => some (.bc d)) elt (.ok e))
    (hR : ∀ D C h' tk' m' vs c, h₁.get? D = none → h₁.get? C = none → D ≠ C → h'.Ns C m' → Kf f.fs h₁ h' → h'.get? D = some (lobj vs c) → RepL g.C h' (fun b => XOf f σ ρ b ∨ b = D ∨ b = C) es vs → vs.length = items.length → RR (.ref D) C (.ok .next) { s with heap := h', toks := tk' }) :
    wpAny (model g.prog g.w) f.A (newList []) (fun acc s₃ => wpAny (model g.prog g.w) f.A (newFunctionEnv scope f.env.globals cl [] f.env.qual none .none (some f.env)) (fun cenv s₄ =>
      codeAny (model g.prog g.w) f.A (.compStart (.ListComp elt [⟨.Name x px, iter, [], 0⟩] scope pos) 0 (.ref I) acc { cenv with scope := relabel scope f.env }) (RR acc cenv.locals) s₄) E s₃) E { s with heap := h₂, toks := tk } := by
  refine wpAny_newObj_type (wpAny_newFunctionEnv sc.cell (by intro y hy; simp at hy) (fun h₃ hns₃ hsb₃ => ?_) sc.kind)
  dsimp only at hns₃ hsb₃ ⊢
  generalize hH2 : h₂.push { cls := .type "list", dict := none, data := .seq ([] : List Value).toArray } = H2 at hns₃ hsb₃ ⊢
  have hC : H2.objs.size = h₂.objs.size + 1 := by rw [← hH2, Heap.size_push]
  have hDC : h₂.objs.size ≠ H2.objs.size := by rw [hC]; exact Nat.ne_of_lt (Nat.lt_succ_self _)
  have below : ∀ b, b < h₂.objs.size → b ≠ H2.objs.size := fun b hb => by rw [hC]; exact Nat.ne_of_lt (Nat.lt_succ_of_lt hb)
  have old : ∀ b o, h₂.get? b = some o → h₃.get? b = some o := fun b o e => hsb₃.extBut b o (below b (Heap.lt_size e)) (Heap.get?_push_of_some _ (hH2 ▸ Heap.get?_push_of_some _ e))
  have hacc : h₃.get? h₂.objs.size = some (lobj [] 0) := hsb₃.extBut _ _ hDC (Heap.get?_push_of_some _ (hH2 ▸ Heap.get?_push_size _ rfl))
  have nD2 : h₂.get? h₂.objs.size = none := none_of_ge (Nat.le_refl _)
  have nC2 : h₂.get? H2.objs.size = none := none_of_ge (by rw [hC]; exact Nat.le_succ _)
  have h12 : ∀ {a}, h₂.get? a = none → h₁.get? a = none := fun {a} e => by
    cases z : h₁.get? a with
    | none => rfl
    | some o => obtain ⟨_, q⟩ := (k₂ a o z).2; rw [e] at q; cases q
  have h01 : ∀ {a}, h₁.get? a = none → g.H0.get? a = none := fun {a} e => by
    cases z : g.H0.get? a with
    | none => rfl
    | some o => rw [S₁.cs.keep a o z] at e; cases e
  have nD := h12 nD2
  have nC := h12 nC2
  generalize hDe : h₂.objs.size = D at *
  generalize hCe : H2.objs.size = C at *
  have hID : I ≠ D := fun z => by
    obtain ⟨o, e⟩ := exI 0 _ st0; rw [z, nD2] at e; cases e
  have hIC : I ≠ C := fun z => by
    obtain ⟨o, e⟩ := exI 0 _ st0; rw [z, nC2] at e; cases e
  let f' := compFm f scope cl C h₁ x ys
  have fsEx : ∀ b ∈ f.fs, ∃ o, h₁.get? b = some o := fun b hb => S₁.Xex (S₁.fsX b hb)
  have off : ∀ a, h₁.get? a = none → a ∉ f.fs := fun a e m => by obtain ⟨o, q⟩ := fsEx a m; rw [e] at q; cases q
  have cs' : ∀ {h}, Kf f.fs h₁ h → CallSt g f'.outer h := fun {h} k => by
    have c := S₁.cs.mono (fs_none0 ok S₁.cs) k
    refine ⟨c.keep, ?_⟩
    obtain ⟨m, ⟨oL, es, ep, hL, hd, _⟩, _⟩ := S₁.ex
    obtain ⟨sl, q⟩ := (k _ _ hL).2
    exact ⟨by show f.env.scope.kind ≠ .module; rw [ok.kind]; decide, ⟨f.L, _, rfl, ok.newL0, q, fun vs q => by simp only at q; rw [hd] at q; cases q⟩, c.ff⟩
  have ok' : FmOk g f' n := {
    G := ok.G
    fr := ok.fr
    hd := ok.hd
    room := ok.room
    kind := sc.kind
    eG := ok.eG
    eB := ok.eB
    stk := fun h _ ff => by
      obtain ⟨_, ⟨L', o, e1, _, e2, e3⟩, e4⟩ := ff
      injection e1 with e1; subst e1
      exact ok.stk h ⟨o, e2, e3⟩ e4
    sub := fun b hb => .tail _ (ok.sub b hb)
    big := by
      show g.top ≤ C
      have := ok.G.big (ok.G.X.keeps S₁.cs.keep)
      rw [hC, ← hDe]
      refine Nat.le_succ_of_le (ok.G.big (ok.G.X.keeps fun b o e => ?_))
      exact (k₂ b o (S₁.cs.keep b o e)).1 fun m => by rw [fs_none0 ok S₁.cs b m] at e; cases e
    newL := nC
    newL0 := h01 nC
    nodup := sc.nd
    loc := fun y hy => by
      have : y = x := by simpa [f', compFm] using hy
      subst this
      exact lookup_relabel_local sc.hx
    cel := sc.cel
    ndb := sc.dx
    csE := cs' (Kf.refl _ _) }
  have X'X : ∀ {d : V} b, XOf f' ⟨fun b => XOf f σ ρ b ∨ b = I ∨ b = D, fun _ => 0⟩ (some (.sh d) :: fr.map fun d => some (.bc d)) b → XOf f σ ρ b ∨ h₁.get? b = none := fun {d} b hb => by
    rcases hb with (hb | rfl | rfl) | hb | ⟨i, hi, _⟩
    · exact .inl hb
    · exact .inr hI
    · exact .inr nD
    · exact .inr (hb ▸ nC)
    · exact (compEn_own hi).elim
  have st' : ∀ {d : V} {v : Value} {h : Heap} {m : Str → Option Value} , Kf f.fs h₁ h → h.Ns C m → m x = some v → Rep g.C h₁ (XOf f σ ρ) d v → (∃ o, h.get? I = some o) → (∃ o, h.get? D = some o) →
      St g f' ⟨fun b => XOf f σ ρ b ∨ b = I ∨ b = D, fun _ => 0⟩ (some (.sh d) :: fr.map fun d => some (.bc d)) h := fun {d v h m} k hns hm r eI eD => by
    have up : ∀ {d' : V} {v' : Value}, Rep g.C h₁ (XOf f σ ρ) d' v' → Rep g.C h (XOf f' ⟨fun b => XOf f σ ρ b ∨ b = I ∨ b = D, fun _ => 0⟩ (some (.sh d) :: fr.map fun d => some (.bc d))) d' v' := fun r => r.mono (k.kx S₁.fsX) X'X
    refine ⟨⟨m, hns, fun i y b hy hb => ?_⟩, cs' k, k, fun i j hi => (compEn_own hi).elim, fun i hi => (compEn_own hi).elim, ?_, fun b hb => .inl (S₁.fsX b hb), fun b hb => ?_, fun i hi => (compEn_own hi).elim, fun b hb => by
      rcases hb with hb | rfl | rfl
      · exact S₁.X0 ok hb
      · exact h01 hI
      · exact h01 nD⟩
    · cases i with
      | zero =>
        simp at hb; subst hb
        have : y = x := by
          have : (x :: ys)[0]? = some y := hy
          simpa using this.symm
        subst this
        exact ⟨v, hm, up r⟩
      | succ j =>
        simp only [List.getElem?_cons_succ] at hb
        obtain ⟨d', e, rfl⟩ := frEn_get hb
        have hy' : ys[j]? = some y := by
          have : (x :: ys)[j + 1]? = some y := hy
          simpa using this
        obtain ⟨c, v', e1, e2, e3, e4⟩ := hfr.2.2 j y d' hy' e
        exact ⟨c, v', e1, e2, e3, up e4⟩
    · show _ ≤ (x :: ys).length
      have := hfr.2.1
      simp; omega
    · rcases hb with hb | rfl | rfl
      · obtain ⟨o, e⟩ := S₁.Xex hb; obtain ⟨_, q⟩ := (k b o e).2; exact ⟨_, q⟩
      · exact eI
      · exact eD
  have upD : ∀ b, b ∈ f'.fs → b = C ∨ b ∈ f.fs := fun b hb => by
    rw [compFm_fs] at hb; exact List.mem_cons.mp hb
  have loop : ∀ s₃ : Shared, s₃ = { s with heap := h₃, toks := tk + ([] : List (Str × Value)).length } →
      codeAny (model g.prog g.w) f.A (.compLoop (.ListComp elt [⟨.Name x px, iter, [], 0⟩] scope pos) 0 (.ref I) (.ref D) (compEnvC scope cl C f.env)) (RR (.ref D) C) s₃ := by
    rintro s₃ rfl
    refine codeAny_compLoop_tests (fun c s' => ∃ (k : Nat) (h : Heap) (tk' : Nat) (m : Str → Option Value) (vs : List Value) (cc : Nat), s' = { s with heap := h, toks := tk' } ∧ k ≤ items.length ∧ c = items.length - k ∧ vs.length = k ∧
        Kf f.fs h₁ h ∧ Stt k h ∧ h.Ns C m ∧ h.get? D = some (lobj vs cc) ∧ RepL g.C h (fun b => XOf f σ ρ b ∨ b = D ∨ b = C ∨ b = I) (es.take k) vs) ?_ items.length
      ⟨0, h₃, _, _, [], 0, rfl, Nat.zero_le _, rfl, rfl, k₂.trans (Kf.of_keeps old), W.frame _ _ _ st0 fun b _ o e => old b o e, hns₃, hacc, by simp [RepL]⟩
    rintro c s' ⟨k, h, tk', m, vs, cc, rfl, hk, rfl, hvl, K, st, hns, hD, rl⟩
    by_cases hlt : k < items.length
    · refine W.item k { s with heap := h, toks := tk' } _ _ hlt st fun v h₄ tk₄ hPv st₄ hk₄ => ?_
      have hd : items[k]? = some items[k] := List.getElem?_eq_getElem hlt
      have he : es[k]? = some es[k] := List.getElem?_eq_getElem (by omega)
      have keep₄ : ∀ b o, b ≠ I → h.get? b = some o → h₄.get? b = some o := fun b o hb e => hk₄ b o (by simpa using hb) e
      have kI : ∀ {h h' : Heap}, Kf f.fs h₁ h → (∀ b o, b ≠ I → h.get? b = some o → h'.get? b = some o) → Kf f.fs h₁ h' := fun {h h'} K kp b o e => by
        have hb : b ≠ I := fun z => by rw [z, hI] at e; cases e
        obtain ⟨p, sl, q⟩ := K b o e
        exact ⟨fun nb => kp b o hb (p nb), sl, kp b _ hb q⟩
      have K₄ := kI K keep₄
      have ns₄ : h₄.Ns C m := by
        obtain ⟨oL, q1, q2, q3, q4⟩ := hns
        exact ⟨oL, q1, q2, keep₄ _ _ (Ne.symm hIC) q3, q4⟩
      refine wpAny_assign_Name (wpAny_storeName_local (env := compEnvC scope cl C f.env) (lookup_relabel_local sc.hx) ns₄ (fun h₅ ns₅ sb₅ => ?_) (by show (scope.kind == .class || _) = false; simp [compEnvC, relabel, sc.kind]))
      have sb₅' : Heap.SameBut C h₄ h₅ := sb₅
      have keep₅ : ∀ b o, b ≠ C → h₄.get? b = some o → h₅.get? b = some o := fun b o hb e => (sb₅'.2 b hb).trans e
      have K₅ : Kf f.fs h₁ h₅ := fun b o e => by
        have hb : b ≠ C := fun z => by rw [z, nC] at e; cases e
        obtain ⟨p, sl, q⟩ := K₄ b o e
        exact ⟨fun nb => keep₅ b o hb (p nb), sl, keep₅ b _ hb q⟩
      have D₅ : h₅.get? D = some (lobj vs cc) := keep₅ _ _ hDC (keep₄ _ _ (Ne.symm hID) hD)
      obtain ⟨oI, eI⟩ := exI _ _ st₄
      have I₅ : h₅.get? I = some oI := keep₅ _ _ hIC eI
      have S₅ := st' K₅ ns₅ (by simp) (hP k v _ hPv hd) ⟨_, I₅⟩ ⟨_, D₅⟩
      have st₅ : Stt (k + 1) h₅ := W.frame _ _ _ st₄ fun b hb o e => keep₅ b o (fun z => by
        rcases hfp b hb with z' | ⟨_, o', z'⟩
        · exact hIC (z' ▸ z)
        · rw [z, nC] at z'; cases z') e
      simp only [List.forIn_nil]
      refine wpAny_pure ?_
      simp only [if_true]
      refine helt k _ _ hd he f' ok' rfl rfl rfl _ { s with heap := h₅, toks := tk₄ + 1 } _ _ S₅ (fun y e' h₆ tk₆ ee k₆ r₆ => ?_) fun c e' h' tk ec => nomatch ec
      injection ee with ee; subst ee
      have keep₆ : ∀ b o, b ≠ C → b ∉ f.fs → h₅.get? b = some o → h₆.get? b = some o := fun b o n1 n2 e => (k₆ b o e).1 fun m => (upD b m).elim n1 n2
      have K₆ : Kf f.fs h₁ h₆ := fun b o e => by
        have hb : b ≠ C := fun z => by rw [z, nC] at e; cases e
        obtain ⟨p, sl, q⟩ := K₅ b o e
        refine ⟨fun nb => keep₆ b o hb nb (p nb), ?_⟩
        obtain ⟨sl', q'⟩ := (k₆ b _ q).2
        exact ⟨sl', by simpa using q'⟩
      have D₆ := keep₆ _ _ hDC (off D nD) D₅
      refine wpAny_list_append_plain (s := { s with heap := h₆, toks := tk₆ }) (items := vs.toArray) ⟨cc, D₆⟩ (fun h₇ ⟨c₇, D₇⟩ sb₇ => ?_) (by simp; omega)
      have sb₇' : Heap.SameBut D h₆ h₇ := sb₇
      have keep₇ : ∀ b o, b ≠ D → h₆.get? b = some o → h₇.get? b = some o := fun b o hb e => (sb₇'.2 b hb).trans e
      have K₇ : Kf f.fs h₁ h₇ := fun b o e => by
        have hb : b ≠ D := fun z => by rw [z, nD] at e; cases e
        obtain ⟨p, sl, q⟩ := K₆ b o e
        exact ⟨fun nb => keep₇ b o hb (p nb), sl, keep₇ b _ hb q⟩
      have ns₇ : ∃ m', h₇.Ns C m' := by
        have n6 := k₆.ns ns₅
        obtain ⟨oL, q1, q2, q3, q4⟩ := n6
        exact ⟨_, oL, q1, q2, keep₇ _ _ (Ne.symm hDC) q3, q4⟩
      obtain ⟨m₇, ns₇⟩ := ns₇
      refine ⟨items.length - (k + 1), by omega, k + 1, h₇, tk₆, m₇, vs ++ [y], c₇, rfl, hlt, rfl, by simp [hvl], K₇, ?_, ns₇, by rw [D₇]; simp [lobj], ?_⟩
      · refine W.frame _ _ _ st₅ fun b hb o e => ?_
        rcases hfp b hb with z | ⟨nx, o', z⟩
        · subst z; exact keep₇ b o hID (keep₆ b o hIC (off _ hI) e)
        · exact keep₇ b o (fun z' => by rw [z', nD] at z; cases z) (keep₆ b o (fun z' => by rw [z', nC] at z; cases z) (fun m => nx (S₁.fsX b m)) e)
      · have et : es.take (k + 1) = es.take k ++ [es[k]] := by
          rw [List.take_add_one, he]; rfl
        rw [et]
        refine RepL.append (rl.mono (fun b o e nx => ?_) fun b m => .inl m) ?_
        · have n1 : b ≠ D := fun z => nx (.inr (.inl z))
          have n2 : b ≠ C := fun z => nx (.inr (.inr (.inl z)))
          have n3 : b ≠ I := fun z => nx (.inr (.inr (.inr z)))
          exact keep₇ b o n1 (keep₆ b o n2 (fun m => nx (.inl (S₁.fsX b m))) (keep₅ b o n2 (keep₄ b o n3 e)))
        · simp only [RepL]
          refine ⟨y, [], rfl, r₆.mono (fun b o e nx => keep₇ b o (fun z => nx (.inl (.inr (.inr z)))) e) fun b m => .inl ?_, rfl⟩
          rcases m with m | m | m | m
          · exact .inl (.inl m)
          · exact .inl (.inr (.inr m))
          · exact .inr (.inl m)
          · exact .inl (.inr (.inl m))
    · have hke : k = items.length := by omega
      subst hke
      refine W.done { s with heap := h, toks := tk' } _ _ st fun h₄ tk₄ hk₄ => ?_
      have keep₄ : ∀ b o, b ≠ I → h.get? b = some o → h₄.get? b = some o := fun b o hb e => hk₄ b o (by simpa using hb) e
      obtain ⟨oL, q1, q2, q3, q4⟩ := hns
      refine hR D C h₄ tk₄ m vs cc nD nC hDC ⟨oL, q1, q2, keep₄ _ _ (Ne.symm hIC) q3, q4⟩ (fun b o e => ?_) (keep₄ _ _ (Ne.symm hID) hD) ?_ hvl
      · have hb : b ≠ I := fun z => by rw [z, hI] at e; cases e
        obtain ⟨p, sl, q⟩ := K b o e
        exact ⟨fun nb => keep₄ b o hb (p nb), sl, keep₄ b _ hb q⟩
      · have : es.take items.length = es := by rw [← hes, List.take_length]
        rw [this] at rl
        refine rl.mono (fun b o e nx => keep₄ b o (fun z => nx (.inr (.inr (.inr z)))) e) fun b m => .inl ?_
        rcases m with m | m | m
        · exact .inl m
        · exact .inr (.inl m)
        · exact .inr (.inr (.inl m))
  exact codeAny_compStart_list (loop _ rfl) (W.self 0 _ _ _ (W.frame _ _ _ st0 fun b _ o e => old b o e) (loop _ rfl))
end
section
variable {g : GI} {f : Fm} {n : Nat} {ρ : En}
structure CompOk (g : GI) (f : Fm) (n : Nat) (ρ : En) (x : Str) (iter elt : Expr) (scope : Scope) (es : List V) : Prop where
  sc : ∃ (items fr : List V) (ys : List Str) (cl : List (Str × Addr)), CompS f scope x ys ∧ ItSrc g f ρ iter items ∧ items.length ≤ sizeLine ∧ es.length = items.length ∧
    (∀ σ h, St g f σ ρ h → FreeOk g f σ ρ scope cl ys fr h) ∧
    (∀ (k : Nat) (d e : V), items[k]? = some d → es[k]? = some e → ∀ f' : Fm, FmOk g f' n → f'.env.scope = relabel scope f.env → f'.xs = [x] → f'.ys = ys → Ev g f' (some (.sh d) :: fr.map fun d => some (.bc d)) elt (.ok e))
  hs : ∀ x, foldedSetIterable iter f.env x = pure x
theorem CompOk.plain {x : Str} {iter elt : Expr} {scope : Scope} {items es : List V} (sc : CompS f scope x []) (hfree : ∀ y ∈ scope.names, y.2 ≠ .free) (hi : ItSrc g f ρ iter items) (hlen : items.length ≤ sizeLine) (hes : es.length = items.length)
    (he : ∀ (k : Nat) (d e : V), items[k]? = some d → es[k]? = some e → ∀ f' : Fm, FmOk g f' n → f'.env.scope = relabel scope f.env → f'.xs = [x] → f'.ys = [] → Ev g f' [some (.sh d)] elt (.ok e))
    (hs : ∀ x, foldedSetIterable iter f.env x = pure x := by intro _; rfl) : CompOk g f n ρ x iter elt scope es where
  sc := ⟨items, [], [], [], sc, hi, hlen, hes, fun σ h _ => ⟨closureFor_none hfree, Nat.le_refl _, fun j y d hy => by simp at hy⟩, he⟩
  hs := hs
theorem comp_val {x : Str} {px pos : Pos} {iter elt : Expr} {scope : Scope} {es : List V} {σ : Sp} {s : Shared} {Q : Value → Shared → Prop} {E : Value → Shared → Prop} (ok : FmOk g f n) (S : St g f σ ρ s.heap) (hc : CompOk g f n ρ x iter elt scope es)
    (q : ∀ D h' tk vs c, Kf f.fs s.heap h' → s.heap.get? D = none → h'.get? D = some (lobj vs c) → RepL g.C h' (fun b => XOf f σ ρ b ∨ b = D) es vs → vs.length ≤ sizeLine → Q (.ref D) { s with heap := h', toks := tk }) :
    wpAny (model g.prog g.w) f.A (eval (.ListComp elt [⟨.Name x px, iter, [], 0⟩] scope pos) f.env) Q E s := by
  obtain ⟨⟨items, fr, ys, cl, sc, hi, hlen, hes, hfr, he⟩, hs⟩ := hc
  rw [eval_ListComp]
  have hcl := (hfr σ _ S).1
  refine wpAny_comprehension_free (use := none) rfl hs hcl sc.kind sc.names (hi σ s _ E S fun I h₁ h₂ tk fp P Stt k₁ k₂ hI exI W st0 hfp hP => ?_)
  have S₁ := S.mono ok k₁
  have hfr₁ := hfr σ _ S₁
  refine comp_core (s := s) (RR := fun acc C => compPost (model g.prog g.w) f.A E none Q acc C) ok sc S₁ k₂ hI exI W st0 hfp hP hfr₁ hlen hes he fun D C h' tk' m' vs c nD nC hDC hn K hD rl hvl => ?_
  refine ⟨m', hn, fun h'' sb => q D h'' tk' vs c (k₁.trans fun b o e => ?_) ?_ ((sb.2 D hDC).trans hD) (rl.mono (fun b o e nx => (sb.2 b fun z => nx (.inr (.inr z))).trans e) fun b m => .inl ?_) (by omega)⟩
  · have hb : b ≠ C := fun z => by rw [z, nC] at e; cases e
    obtain ⟨p, sl, q⟩ := K b o e
    exact ⟨fun nb => (sb.2 b hb).trans (p nb), sl, (sb.2 b hb).trans q⟩
  · cases z : s.heap.get? D with
    | none => rfl
    | some o => obtain ⟨_, q⟩ := (k₁ D o z).2; rw [nD] at q; cases q
  · exact m.elim .inl fun m => .inr (.inl m)
theorem Ev.comp {x : Str} {px pos : Pos} {iter elt : Expr} {scope : Scope} {es : List V} (ok : FmOk g f n) (hc : CompOk g f n ρ x iter elt scope es) : Ev g f ρ (.ListComp elt [⟨.Name x px, iter, [], 0⟩] scope pos) (.ok (.list es)) := fun σ s Q E S q ex =>
  comp_val ok S hc fun D h' tk vs c k nD hD rl hz => q _ _ h' tk rfl k (by
    simp only [Rep]
    exact ⟨D, vs, c, rfl, ⟨hD, S.fresh_off nD⟩, rl.mono (KX.refl _ _) fun b m => .inl (.inl m), hz⟩)
theorem ff_of {base h h' : Heap} : ∀ {l : List Env}, h.FunFrames base l → (∀ b ∈ fsOf l, ∀ o, h.get? b = some o → ∃ sl, h'.get? b = some { o with slots := sl }) → h'.FunFrames base l
  | [], _, _ => trivial
  | env :: r, hf, k => by
    obtain ⟨a1, ⟨L', o, q1, q2, q3, q4⟩, a3⟩ := hf
    have e : fsOf (env :: r) = L' :: fsOf r := by unfold fsOf; rw [List.filterMap_cons, q1]
    obtain ⟨sl, q⟩ := k L' (by rw [e]; exact .head _) o q3
    exact ⟨a1, ⟨L', _, q1, q2, q, q4⟩, ff_of a3 fun b hb => k b (by rw [e]; exact .tail _ hb)⟩
theorem ns_unique {h : Heap} {a : Addr} {m m' : Str → Option Value} (x : h.Ns a m) (y : h.Ns a m') : m = m' := by
  obtain ⟨o, es, ep, e1, e2, _, e3⟩ := x
  obtain ⟨o', es', ep', e1', e2', _, e3'⟩ := y
  rw [e1] at e1'; injection e1' with e1'; subst e1'
  rw [e2] at e2'; injection e2' with e2' _; subst e2'
  exact funext fun n => (e3 n).symm.trans (e3' n)
theorem St.bind {x : Str} {i : Nat} {b : B} {σ σ' : Sp} {h0 h' : Heap} (ok : FmOk g f n) (S : St g f σ ρ h0) (hx : f.nm[i]? = some x)
    (k : ∀ b o, b ≠ f.L → h0.get? b = some o → (b ∉ f.fs → h'.get? b = some o) ∧ ∃ sl, h'.get? b = some { o with slots := sl })
    (hα : ∀ j, j ≠ i → σ'.α j = σ.α j) (hY : σ'.Y = σ.Y)
    (hown : b.owns = true → (f.hE.get? (σ'.α i) = none ∧ σ'.α i ≠ f.L ∧ g.H0.get? (σ'.α i) = none) ∧ h0.get? (σ'.α i) = none)
    (hns : ∀ m, h0.Ns f.L m → ∃ m', h'.Ns f.L m' ∧ (∀ y, y ≠ x → m' y = m y) ∧ VarOk g f h' (XOf f σ' (ρ.set i (some b))) m' (σ'.α i) x b) :
    St g f σ' (ρ.set i (some b)) h' ∧ Trn f σ ρ h0 σ' (ρ.set i (some b)) h' := by
  obtain ⟨m, hns0, hvar⟩ := S.ex
  obtain ⟨m', hns', hm', hv'⟩ := hns m hns0
  have ownSet : ∀ {j}, Own (ρ.set i (some b)) j → (j = i ∧ b.owns = true) ∨ (j ≠ i ∧ Own ρ j) := fun {j} hj => by
    obtain ⟨b', hb, ho⟩ := hj
    rcases set_get hb with ⟨e, e'⟩ | ⟨e, e'⟩
    · injection e' with e'; subst e'; exact .inl ⟨e, ho⟩
    · exact .inr ⟨e, b', e', ho⟩
  have ownThere : ∀ {j}, Own ρ j → ∃ o, h0.get? (σ.α j) = some o := fun {j} hj => by
    obtain ⟨b', hb, ho⟩ := hj
    have hl : j < f.nm.length := Nat.lt_of_lt_of_le (List.getElem?_eq_some_iff.mp hb).1 S.len
    exact (hvar j _ b' (List.getElem?_eq_getElem hl) hb).there ho
  have exL : ∃ o, h'.get? f.L = some o := by obtain ⟨o', _, _, e', _⟩ := hns'; exact ⟨o', e'⟩
  have T : Trn f σ ρ h0 σ' (ρ.set i (some b)) h' := by
    refine ⟨fun c o hc hf _ => (k c o (fun z => hf (by rw [z, Fm.fs_eq]; exact .head _)) hc).1 hf, fun c o hc hf => ?_, fun c hc => ?_, hY⟩
    · by_cases z : c = f.L
      · subst z; exact exL
      · obtain ⟨_, q⟩ := (k c o z hc).2; exact ⟨_, q⟩
    · obtain ⟨l, hl, hc⟩ := hc
      rcases ownSet hl with ⟨rfl, ho⟩ | ⟨hne, ho⟩
      · right; rw [hc]; exact (hown ho).2
      · left; exact ⟨l, ho, by rw [hc, hα l hne]⟩
  refine ⟨⟨⟨_, hns', fun j y b' hy hb => ?_⟩, ⟨fun c o e => ?_, ?_⟩, fun c o e => ?_, ?_, ?_, by rw [List.length_set]; exact S.len, by rw [hY]; exact S.Yfs, fun c hc => ?_, fun j hj m => ?_, by rw [hY]; exact S.Y0⟩, T⟩
  · rcases set_get hb with ⟨e, e'⟩ | ⟨e, e'⟩
    · subst e
      injection e' with e'; subst e'
      rw [hx] at hy; injection hy with hy; subst hy
      exact hv'
    · rw [hα j e]
      refine (hvar j y b' hy e').step (fun c o hc hX => ?_) (fun c hc => ?_) (hm' y (nodup_ne ok.nodup hy hx e)) fun ho o hc => ?_
      · exact (k c o (fun z => hX (.inr (.inl z))) hc).1 fun m => hX (S.fsX c m)
      · rcases hc with hc | hc | ⟨l, hl, hc⟩
        · exact .inl (.inl (hY ▸ hc))
        · exact .inl (.inr (.inl hc))
        · rcases ownSet hl with ⟨rfl, ho⟩ | ⟨hne, ho⟩
          · right; rw [hc]; exact (hown ho).2
          · left; right; right; exact ⟨l, ho, by rw [hc, hα l hne]⟩
      · have fr := S.fresh j ⟨b', e', ho⟩
        exact (k _ o fr.2.1 hc).1 (own_off ok fr.1 fr.2.1)
  · have h1 := S.cs.keep c o e
    exact (k c o (fun z => by rw [z, ok.newL0] at e; cases e) h1).1 fun m => by rw [fs_none0 ok S.cs c m] at e; cases e
  · exact ff_of S.cs.ff fun c hc o e => (k c o (outer_ne ok c hc) e).2
  · have hc : c ≠ f.L := fun z => by rw [z, ok.newL] at e; cases e
    obtain ⟨p, sl, q⟩ := S.kE c o e
    obtain ⟨_, sl', q'⟩ := k c _ hc q
    refine ⟨fun nb => (k c o hc (p nb)).1 fun m => ?_, sl', q'⟩
    rw [Fm.fs_eq] at m
    exact (List.mem_cons.mp m).elim hc nb
  · intro j l hj hl e
    rcases ownSet hj with ⟨rfl, ho⟩ | ⟨hne, ho⟩
    · rcases ownSet hl with ⟨rfl, ho'⟩ | ⟨hne', ho'⟩
      · rfl
      · obtain ⟨o, q⟩ := ownThere ho'
        rw [hα l hne'] at e
        rw [← e, (hown ho).2] at q; cases q
    · rcases ownSet hl with ⟨rfl, ho'⟩ | ⟨hne', ho'⟩
      · obtain ⟨o, q⟩ := ownThere ho
        rw [hα j hne] at e
        rw [e, (hown ho').2] at q; cases q
      · rw [hα j hne, hα l hne'] at e
        exact S.inj j l ho ho' e
  · intro j hj
    rcases ownSet hj with ⟨rfl, ho⟩ | ⟨hne, ho⟩
    · exact (hown ho).1
    · rw [hα j hne]; exact S.fresh j ho
  · rw [hY] at hc
    obtain ⟨o, e⟩ := S.Yex c hc
    by_cases z : c = f.L
    · subst z; exact exL
    · obtain ⟨_, q⟩ := (k c o z e).2; exact ⟨_, q⟩
  · rw [hY] at m
    rcases ownSet hj with ⟨rfl, ho⟩ | ⟨hne, ho⟩
    · obtain ⟨o, e⟩ := S.Yex _ m; rw [(hown ho).2] at e; cases e
    · rw [hα j hne] at m; exact S.offY j ho m
theorem assignComp_core {x y : Str} {i : Nat} {px py pos spos : Pos} {iter elt : Expr} {scope : Scope} {es : List V} {b : B} {rest : List Stmt} {O : Out → Prop} (ok : FmOk g f n) (hy : f.xs[i]? = some y) (hc : CompOk g f n ρ x iter elt scope es) (hb : b = .sh (.list es) ∨ b = .li es) (h : Ex g f (ρ.set i (some b)) rest O)
    (hsw : swapsWith (.ListComp elt [⟨.Name x px, iter, [], 0⟩] scope pos) (some (.Name y py)) spos.line f.env = pure true) : Ex g f ρ (.Assign [.Name y py] (.ListComp elt [⟨.Name x px, iter, [], 0⟩] scope pos) spos :: rest) O := fun σ s Q E S q ex => by
  obtain ⟨⟨items, fr, ys, cl, sc, hi, hlen, hes, hfr, he⟩, hs⟩ := hc
  refine wpAny_execs_cons ?_
  rw [exec_Assign_Name_used _ _ _ _ hsw]
  refine wpAny_bind (wpAny_standAt (wpAny_bind ?_))
  show wpAny _ f.A (do let _ ← comprehension (.ListComp elt [⟨.Name x px, iter, [], 0⟩] scope pos) scope f.env _ (newList []) false (eval iter f.env) (some (assign (.Name y py) f.env))) _ _ s
  have hcl := (hfr σ _ S).1
  refine wpAny_bind (wpAny_comprehension_free (use := some (assign (.Name y py) f.env)) rfl hs hcl sc.kind sc.names (hi σ s _ E S fun I h₁ h₂ tk fp P Stt k₁ k₂ hI exI W st0 hfp hP => ?_))
  have S₁ := S.mono ok k₁
  have hfr₁ := hfr σ _ S₁
  refine comp_core (s := s) (RR := fun acc C => compPost (model g.prog g.w) f.A E (some (assign (.Name y py) f.env)) _ acc C) ok sc S₁ k₂ hI exI W st0 hfp hP hfr₁ hlen hes he fun D C h' tk' m' vs c nD nC hDC hn K hD rl hvl => ?_
  have none_of : ∀ {a : Addr}, h₁.get? a = none → f.hE.get? a = none ∧ a ≠ f.L ∧ g.H0.get? a = none ∧ a ∉ f.fs := fun {a} e => by
    refine ⟨?_, fun z => ?_, ?_, fun m => ?_⟩
    · cases z : f.hE.get? a with
      | none => rfl
      | some o => obtain ⟨_, q⟩ := (S₁.kE a o z).2; rw [e] at q; cases q
    · obtain ⟨_, ⟨oL, _, _, hL, _⟩, _⟩ := S₁.ex; rw [← z, e] at hL; cases hL
    · cases z : g.H0.get? a with
      | none => rfl
      | some o => have := S₁.cs.keep a o z; rw [e] at this; cases this
    · obtain ⟨o, z⟩ := S₁.Xex (S₁.fsX a m); rw [e] at z; cases z
  have dd := none_of nD
  have dc := none_of nC
  have hym := List.mem_of_getElem? hy
  obtain ⟨m₀, hns₀, _⟩ := S₁.ex
  refine wpAny_assign_Name (wpAny_storeName_local (ok.loc y hym) (K.ns hns₀) (fun H hnsH sbH => ?_) (by rw [ok.kind]; rfl))
  have sbH' : Heap.SameBut f.L h' H := sbH
  have nsC : ∃ m, H.Ns C m := by
    obtain ⟨oL, q1, q2, q3, q4⟩ := hn
    exact ⟨_, oL, q1, q2, (sbH'.2 _ dc.2.1).trans q3, q4⟩
  obtain ⟨mC, nsC⟩ := nsC
  refine ⟨mC, nsC, fun h3 sb => wpAny_pure (wpAny_pure ?_)⟩
  have kk : ∀ b o, b ≠ f.L → h₁.get? b = some o → (b ∉ f.fs → h3.get? b = some o) ∧ ∃ sl, h3.get? b = some { o with slots := sl } := fun b o hb e => by
    have hc : b ≠ C := fun z => by rw [z, nC] at e; cases e
    obtain ⟨p, sl, q⟩ := K b o e
    have mv : ∀ {o}, h'.get? b = some o → h3.get? b = some o := fun {o} e => (sb.2 b hc).trans ((sbH'.2 b hb).trans e)
    exact ⟨fun nb => mv (p nb), sl, mv q⟩
  have D3 : h3.get? D = some (lobj vs c) := (sb.2 D hDC).trans ((sbH'.2 D dd.2.1).trans hD)
  have ns3 : h3.Ns f.L (fun z => if z = y then some (.ref D) else m₀ z) := by
    obtain ⟨oL, q1, q2, q3, q4⟩ := hnsH
    exact ⟨oL, q1, q2, (sb.2 _ (Ne.symm dc.2.1)).trans q3, q4⟩
  have kx : KX (fun b => XOf f σ ρ b ∨ b = D ∨ b = C) h' h3 := fun b o e nx => (sb.2 b fun z => nx (.inr (.inr z))).trans ((sbH'.2 b fun z => nx (.inl (.inr (.inl z)))).trans e)
  have hvl' : vs.length ≤ sizeLine := by omega
  have fin : ∀ σ', (∀ j, j ≠ i → σ'.α j = σ.α j) → σ'.Y = σ.Y → (b.owns = true → σ'.α i = D) → VarOk g f h3 (XOf f σ' (ρ.set i (some b))) (fun z => if z = y then some (.ref D) else m₀ z) (σ'.α i) y b →
      wpAny (model g.prog g.w) f.A (execs rest f.env) Q E { s with heap := h3, toks := tk' + 1 } := fun σ' hα hY hD' hv => by
    obtain ⟨S₃, T₃⟩ := S₁.bind (σ' := σ') (h' := h3) ok (Fm.nmx hy) kk hα hY (fun ho => by rw [hD' ho]; exact ⟨⟨dd.1, dd.2.1, dd.2.2.1⟩, nD⟩) fun m hm => by
      have := ns_unique hm hns₀; subst this
      exact ⟨_, ns3, fun z hz => by simp [hz], hv⟩
    exact Ex.after (σ := σ) (ρ := ρ) (s := s) h S₃ (k₁.trn.trans T₃) q ex
  rcases hb with rfl | rfl
  · refine fin σ (fun _ _ => rfl) rfl (fun z => nomatch z) ⟨.ref D, by simp, ?_⟩
    have subX : ∀ a, XOf f σ (ρ.set i (some (.sh (.list es)))) a → XOf f σ ρ a := fun a ha => by
      rcases ha with ha | ha | ⟨j, ⟨b', hb', ho⟩, ha⟩
      · exact .inl ha
      · exact .inr (.inl ha)
      · rcases set_get hb' with ⟨_, e'⟩ | ⟨_, e'⟩
        · injection e' with e'; subst e'; cases ho
        · exact .inr (.inr ⟨j, ⟨b', e', ho⟩, ha⟩)
    simp only [Rep]
    exact ⟨D, vs, c, rfl, ⟨D3, fun m => S₁.fresh_off nD (subX _ m)⟩, rl.mono kx fun a m => .inl (.inl (subX a m)), hvl'⟩
  · refine fin ⟨σ.Y, fun j => if j = i then D else σ.α j⟩ (fun j hj => by simp [hj]) rfl (fun _ => by simp) ⟨by simp, vs, c, by simpa using D3, rl.mono kx fun a m => .inl ?_, hvl'⟩
    rcases m with ha | ha | ⟨j, ⟨b', hb', ho⟩, ha⟩
    · exact .inl (.inl ha)
    · exact .inl (.inr (.inl ha))
    · rcases set_get hb' with ⟨e, _⟩ | ⟨e, e'⟩
      · subst e; refine .inr (.inl ?_); rw [ha]; simp
      · refine .inl (.inr (.inr ⟨j, ⟨b', e', ho⟩, ?_⟩)); rw [ha]; simp [e]
theorem Ex.assignComp {x y : Str} {px py pos spos : Pos} {iter elt : Expr} {scope : Scope} {es : List V} {rest : List Stmt} {O : Out → Prop} (ok : FmOk g f n) (i : Nat) (hy : f.xs[i]? = some y) (hc : CompOk g f n ρ x iter elt scope es) (h : Ex g f (ρ.set i (some (.sh (.list es)))) rest O)
    (hsw : swapsWith (.ListComp elt [⟨.Name x px, iter, [], 0⟩] scope pos) (some (.Name y py)) spos.line f.env = pure true) : Ex g f ρ (.Assign [.Name y py] (.ListComp elt [⟨.Name x px, iter, [], 0⟩] scope pos) spos :: rest) O := assignComp_core ok hy hc (.inl rfl) h hsw
theorem Ex.assignCompO {x y : Str} {px py pos spos : Pos} {iter elt : Expr} {scope : Scope} {es : List V} {rest : List Stmt} {O : Out → Prop} (ok : FmOk g f n) (i : Nat) (hy : f.xs[i]? = some y) (hc : CompOk g f n ρ x iter elt scope es) (h : Ex g f (ρ.set i (some (.li es))) rest O)
    (hsw : swapsWith (.ListComp elt [⟨.Name x px, iter, [], 0⟩] scope pos) (some (.Name y py)) spos.line f.env = pure true) : Ex g f ρ (.Assign [.Name y py] (.ListComp elt [⟨.Name x px, iter, [], 0⟩] scope pos) spos :: rest) O := assignComp_core ok hy hc (.inr rfl) h hsw
end
section
variable {g : GI} {f : Fm} {n : Nat} {ρ : En}
theorem Ex.while {test : Expr} {body : List Stmt} {pos : Pos} {O : Out → Prop} {τ : Type} (ok : FmOk g f n) (R : τ → En) (J : τ → Prop) (μ : τ → Nat) (t0 : τ) (h0 : Weak ρ (R t0)) (j0 : J t0) (cond : τ → Bool)
    (tst : ∀ t, J t → Te g f (R t) test (cond t))
    (turn : ∀ t, J t → cond t = true → Ex g f (R t) body (TurnO (fun ρ' => ∃ t', J t' ∧ μ t' < μ t ∧ Weak ρ' (R t')) O))
    (done : ∀ t, J t → cond t = false → O (.next (R t))) : Ex g f ρ [.While test body [] pos] O := fun σ s Q E S q ex => by
  have fin : wpAny (model g.prog g.w) f.A (exec (.While test body [] pos) f.env) Q E s := by
    refine wpAny_While ?_
    refine codeAny_whileLoop (fun c s' => ∃ (t : τ) (σ' : Sp) (h' : Heap) (tk' : Nat), s' = { s with heap := h', toks := tk' } ∧ c = μ t ∧ J t ∧ St g f σ' (R t) h' ∧ Trn f σ ρ s.heap σ' (R t) h') ?_ (μ t0)
      ⟨t0, σ, s.heap, s.toks, rfl, rfl, j0, S.weak h0, h0.trn _ _⟩
    rintro c s' ⟨t, σ', h', tk', rfl, rfl, hJ, S', T'⟩
    refine tst t hJ σ' { s with heap := h', toks := tk' } _ _ S' fun h₂ tk₂ k₂ => ?_
    have S₂ := S'.mono ok k₂
    have T₂ : Trn f σ ρ s.heap σ' (R t) h₂ := T'.trans k₂.trn
    cases hc : cond t with
    | true =>
      simp only [if_true]
      refine turn t hJ hc σ' { s with heap := h₂, toks := tk₂ } _ _ S₂ (fun fl o h₃ tk₃ ho hok => ?_) fun c ρ' e' h₃ tk₃ ho _ => ho.elim
      have next : ∀ ρ' σ₃, (∃ t', J t' ∧ μ t' < μ t ∧ Weak ρ' (R t')) → St g f σ₃ ρ' h₃ → Trn f σ' (R t) h₂ σ₃ ρ' h₃ →
          ∃ m, m < μ t ∧ ∃ (t : τ) (σ' : Sp) (h' : Heap) (tk' : Nat), ({ s with heap := h₃, toks := tk₃ } : Shared) = { s with heap := h', toks := tk' } ∧ m = μ t ∧ J t ∧ St g f σ' (R t) h' ∧ Trn f σ ρ s.heap σ' (R t) h' := by
        rintro ρ' σ₃ ⟨t', hJ', hm, w'⟩ S₃ T₃
        exact ⟨μ t', hm, t', σ₃, h₃, tk₃, rfl, rfl, hJ', S₃.weak w', (T₂.trans T₃).trans (w'.trn _ _)⟩
      cases o with
      | next ρ' => obtain ⟨rfl, σ₃, S₃, T₃⟩ := hok; exact next ρ' σ₃ ho S₃ T₃
      | cont ρ' => obtain ⟨rfl, σ₃, S₃, T₃⟩ := hok; exact next ρ' σ₃ ho S₃ T₃
      | brk ρ' =>
        obtain ⟨rfl, σ₃, S₃, T₃⟩ := hok
        exact q .next (.next ρ') h₃ tk₃ ho ⟨rfl, _, S₃, T₂.trans T₃⟩
      | ret d =>
        obtain ⟨u, rfl, c, kE, r⟩ := hok
        exact q (.ret u) (.ret d) h₃ tk₃ ho ⟨u, rfl, c, kE, by rw [← T₂.Y]; exact r⟩
      | exc _ _ => exact ho.elim
    | false =>
      simp only [Bool.false_eq_true, if_false]
      exact wpAny_execs_nil (q .next (.next (R t)) h₂ tk₂ (done t hJ hc) ⟨rfl, _, S₂, T₂⟩)
  refine wpAny_execs_cons (wpAny_mono fin (fun fl s' h => ?_) fun _ _ h => h)
  cases fl <;> first | exact h | exact wpAny_execs_nil h
end
structure SetK (g : GI) : Prop where
  hs : findIn g.K (.ref g.C) "__setattr__" = some (some (.builtin "object.__setattr__"))
  hp : plainOver g.K g.C = true
  ht : takerIn g.K g.C "labels" = some none
  hh : (clsIn g.K g.C).any (·.hasDict) = true
section
variable {prog : Program} {w : World} {A : Around} {E : Value → Shared → Prop} {s : Shared}
theorem set_core {K : Frag} {C x dx : Addr} {v : Value} {R : Result → Shared → Prop} {name : Str} {tk₀ : Tok} (X : K.In s.heap) (hx : s.heap.get? x = some (instObj C dx)) (hdx : s.heap.get? dx = some emptyDict)
    (hp : plainOver K C = true) (ht : takerIn K C name = some none) (hh : (clsIn K C).any (·.hasDict) = true)
    (h : ∀ h' hsh tk m tk', Heap.SameBut dx s.heap h' → h'.get? dx = some (dictOf [⟨hsh, .str name tk, v⟩] m) → R (.ok (.ret .none)) { s with heap := h', toks := tk' }) :
    codeAny (model prog w) A (.call (.builtin "object.__setattr__") ⟨[.ref x, .str name tk₀, v], []⟩) R s := by
  have I : PySem.W.InstAt s.heap x (instObj C dx) C (some emptyDict) := ⟨hx, rfl, rfl, hdx⟩
  refine osa_open X I hp ht fun b => ?_
  obtain ⟨cd, hc, hd'⟩ := any_some hh
  refine wpAny_bind (wpAny_pure (wpAny_bind (wpAny_bind (wpAny_loadPart hx (wpAny_bind ((looks_clsIn X hc).here ?_))))))
  rw [hd']
  refine wpAny_pure (a := some dx) (wpAny_bind (wpAny_pure (wpAny_bind ?_)))
  unfold nsSet
  refine wpAny_bind (wpAny_bind (wpAny_askSetting (wpAny_pure (wpAny_bind (wpAny_mkText (wpAny_bind (wpAny_loadPart hdx ?_)))))))
  have c : (!(#[] : Array DictEntry).any (·.key.isStr name) && (#[] : Array DictEntry).any (·.refKey)) = false := by simp
  dsimp only
  rw [aRefKeyMayBeTheName_at, c]
  have e : ∀ hsh tk, ∃ m, (Obj.putName name hsh (.str name tk) v emptyDict) = dictOf [⟨hsh, .str name tk, v⟩] m := fun hsh tk => by
    rw [Obj.putName_eq]; exact ⟨_, by simp [Obj.putNameByArray]; rfl⟩
  have D' : ∀ hsh tk, ∃ m, (s.heap.update dx (Obj.putName name hsh (.str name tk) v)).get? dx = some (dictOf [⟨hsh, .str name tk, v⟩] m) := fun hsh tk => by
    obtain ⟨m, e⟩ := e hsh tk
    exact ⟨m, by rw [Heap.get?_update_self _ hdx (by rw [e]; rfl), e]⟩
  refine wpAny_updatePart hdx ?_
  obtain ⟨m, D⟩ := D' (PyData.keyHash w.params name) s.toks
  refine wpAny_bind (wpAny_lookBehind D (pastItsLine_dict (by rw [List.size_toArray, sizeLine_eq]; exact Nat.le_of_ble_eq_true rfl)) ?_)
  exact wpAny_pure (h _ _ _ _ _ (Heap.SameBut.update ..) D)
theorem set_raw {K : Frag} {C x dx : Addr} {v : Value} {Q : Unit → Shared → Prop} {name : Str} (X : K.In s.heap) (hx : s.heap.get? x = some (instObj C dx)) (hdx : s.heap.get? dx = some emptyDict)
    (hs : findIn K (.ref C) "__setattr__" = some (some (.builtin "object.__setattr__"))) (hp : plainOver K C = true) (ht : takerIn K C name = some none) (hh : (clsIn K C).any (·.hasDict) = true)
    (h : ∀ h' hsh tk m tk', Heap.SameBut dx s.heap h' → h'.get? dx = some (dictOf [⟨hsh, .str name tk, v⟩] m) → Q () { s with heap := h', toks := tk' }) :
    wpAny (model prog w) A (setAttr (.ref x) name v) Q E s := by
  have I : PySem.W.InstAt s.heap x (instObj C dx) C (some emptyDict) := ⟨hx, rfl, rfl, hdx⟩
  exact set_plain X I hs (set_core (s := { s with toks := s.toks + 1 }) X hx hdx hp ht hh h)
end
section
variable {g : GI} {f : Fm} {n : Nat} {ρ : En}
theorem meName {x : Str} {i : Nat} {o : Option (List (List UInt8))} {np : Pos} {σ : Sp} {s : Shared} {Q : Value → Shared → Prop} {E : Value → Shared → Prop} (ok : FmOk g f n) (S : St g f σ ρ s.heap) (hx : f.xs[i]? = some x) (hb : ρ[i]? = some (some (.me o)))
    (h : Q (.ref (σ.α i + 1)) s) : wpAny (model g.prog g.w) f.A (eval (.Name x np) f.env) Q E s := by
  obtain ⟨m, hns, hv⟩ := S.ex
  have hm := List.mem_of_getElem? hx
  obtain ⟨_, e, _⟩ := hv i x _ (Fm.nmx hx) hb
  exact wpAny_Name (wpAny_loadName_local ok.kind (ok.loc x hm) hns e h) (ok.ndx hm)
theorem St.me {i : Nat} {o : Option (List (List UInt8))} {σ : Sp} {h : Heap} (S : St g f σ ρ h) (hb : ρ[i]? = some (some (.me o))) : σ.α i = f.hE.objs.size ∧ h.get? (σ.α i + 1) = some (instObj g.C (σ.α i)) ∧ ¬ XOf f σ ρ (σ.α i + 1) ∧ MeOk g h (XOf f σ ρ) (σ.α i) o := by
  obtain ⟨m, hns, hv⟩ := S.ex
  have hl : i < f.nm.length := Nat.lt_of_lt_of_le (List.getElem?_eq_some_iff.mp hb).1 S.len
  obtain ⟨e0, _, e1, e2, e3⟩ := hv i _ _ (List.getElem?_eq_getElem hl) hb
  exact ⟨e0, e1, e2, e3⟩
theorem Ex.setLabels {x : Str} {np apos pos : Pos} {e : Expr} {ls : List (List UInt8)} {rest : List Stmt} {O : Out → Prop} (ok : FmOk g f n) (i : Nat) (hx : f.xs[i]? = some x) (hb : ρ[i]? = some (some (.me none))) (sk : SetK g) (he : Ev g f ρ e (.ok (.tup (ls.map .bytes))))
    (h : Ex g f (ρ.set i (some (.me (some ls)))) rest O) (hs : swapsWith e (some (.Attribute (.Name x np) "labels" apos)) pos.line f.env = pure false := by rfl) : Ex g f ρ (.Assign [.Attribute (.Name x np) "labels" apos] e pos :: rest) O := fun σ s Q E S q ex => by
  refine wpAny_execs_cons (plainObj_wpAny_Assign_Attribute (he σ s _ _ S (fun v d h₁ t₁ ed k₁ r₁ => ?_) fun c e' h' tk ec => nomatch ec) hs)
  injection ed with ed; subst ed
  have S₁ := S.mono ok k₁
  refine meName (s := { s with heap := h₁, toks := t₁ }) ok S₁ hx hb ?_
  obtain ⟨a0, a1, a2, a3⟩ := S₁.me hb
  have X : g.K.In h₁ := ok.G.X.keeps S₁.cs.keep
  refine set_raw (s := { s with heap := h₁, toks := t₁ }) X a1 a3 sk.hs sk.hp sk.ht sk.hh fun h₂ hsh tk m tk' sb hd => ?_
  have aX : XOf f σ ρ (σ.α i) := .inr (.inr ⟨i, ⟨_, hb, rfl⟩, rfl⟩)
  have sb' : Heap.SameBut (σ.α i) h₁ h₂ := sb
  have kx : KX (XOf f σ ρ) h₁ h₂ := fun c o ec nc => (sb'.2 c fun z => nc (z ▸ aX)).trans ec
  have isr : ∃ t, v = .ref t := by simp only [Rep] at r₁; obtain ⟨a, _, _, e, _⟩ := r₁; exact ⟨a, e⟩
  obtain ⟨t, rfl⟩ := isr
  obtain ⟨S₂, T₂⟩ := S₁.turn ok hb rfl (b' := .me (some ls)) rfl sb' fun m₀ x₀ a₀ hv₀ ea => by
    subst ea
    have sub : ∀ b, XOf f σ (ρ.set i (some (.me (some ls)))) b → XOf f σ ρ b ∨ h₁.get? b = none := fun b hb' => .inl ((X_set hb rfl rfl b).mp hb')
    exact ⟨hv₀.1, hv₀.2.1, (sb'.2 _ (fun z => Nat.succ_ne_self _ z)).trans a1, fun z => a2 ((X_set hb rfl rfl _).mp z), hsh, tk, t, m, hd, r₁.mono kx sub⟩
  exact Ex.after (σ := σ) (ρ := ρ) (s := s) h S₂ (k₁.trn.trans T₂) q ex
theorem Ev.labelsMe {x : Str} {np pos : Pos} {ls : List (List UInt8)} (ok : FmOk g f n) (hK : LabK g) (i : Nat) (hx : f.xs[i]? = some x) (hb : ρ[i]? = some (some (.me (some ls))))
    (he : eval (.Attribute (.Name x np) "labels" pos) f.env = (do
      let o' ← eval (.Name x np) f.env
      standAt pos.atName
      let r ← holding [o'] (getAttr o' "labels" true)
      letTemporaryGo (.Name x np) o' r
      pure r) := by rfl) : Ev g f ρ (.Attribute (.Name x np) "labels" pos) (.ok (.tup (ls.map .bytes))) := fun σ s Q E S q ex => by
  refine PyProof.Rows.Attribute_any_ (meName ok S hx hb ?_) he
  obtain ⟨a0, a1, a2, hs, tk, t, m, a4, a5⟩ := S.me hb
  have X : g.K.In s.heap := ok.G.X.keeps S.cs.keep
  have I : PySem.W.InstAt s.heap (σ.α i + 1) (instObj g.C (σ.α i)) g.C (some (dictOf [⟨hs, .str "labels" tk, .ref t⟩] m)) := ⟨a1, rfl, rfl, a4⟩
  refine get_value X I hK.ga (findObj_own (v := .ref t) (attr := none) hK.hd hK.ha rfl ?_) rfl ?_
  · unfold lookIn
    simp [Value.isStr]
  · exact q _ _ s.heap _ rfl (Kf.refl _ _) a5
theorem Ev.clsAttr {x name : Str} {np pos : Pos} {C' : Addr} {mc : Value} {k : Int} {tk : Tok} (ok : FmOk g f n) (hx : f.env.kindOf x = some .globalImplicit) (gv : GV g x (.ref C')) (hr : readsIn g.K C' mc = true) (e : findCls g.K (.ref C') mc name = some (.val (.int k tk)))
    (hh : handedIn (.int k tk) = true := by rfl)
    (he : eval (.Attribute (.Name x np) name pos) f.env = (do
      let o' ← eval (.Name x np) f.env
      standAt pos.atName
      let r ← holding [o'] (getAttr o' name true)
      letTemporaryGo (.Name x np) o' r
      pure r) := by rfl) : Ev g f ρ (.Attribute (.Name x np) name pos) (.ok (.int k)) := fun σ s Q E S q ex => by
  refine PyProof.Rows.Attribute_any_ (gv f n np s _ _ ok hx S.cs ?_) he
  refine cls_value (ok.G.X.keeps S.cs.keep) hr e hh ?_
  exact q _ _ s.heap _ rfl (Kf.refl _ _) (by simp only [Rep]; exact ⟨_, rfl⟩)
theorem Ex.unpack3 {x y z : Str} {xp yp zp tp pos : Pos} {e : Expr} {kk : Nat} {a b c : V} {rest : List Stmt} {O : Out → Prop} (ok : FmOk g f n) (i j l : Nat) (hx : f.xs[i]? = some x) (hy : f.xs[j]? = some y) (hz : f.xs[l]? = some z) (he : Ev g f ρ e (.ok (.tup [a, b, c])))
    (h : Ex g f (((ρ.set i (some (.sh a))).set j (some (.sh b))).set l (some (.sh c))) rest O)
    (hs : swapsWithSole [.Tuple [.Name x xp, .Name y yp, .Name z zp] kk tp] e pos.line f.env = pure false := by rfl) (hw : swappedStores [.Tuple [.Name x xp, .Name y yp, .Name z zp] kk tp] e f.env = pure none := by rfl) :
    Ex g f ρ (.Assign [.Tuple [.Name x xp, .Name y yp, .Name z zp] kk tp] e pos :: rest) O := fun σ s Q E S q ex => by
  refine wpAny_execs_cons (PyProof.Rows.Assign_Tuple (he σ s _ _ S (fun v d h₁ t₁ ed k₁ r₁ => ?_) fun c e' h' tk ec => nomatch ec) hs hw)
  injection ed with ed; subst ed
  have S₁ := S.mono ok k₁
  simp only [Rep, RepL] at r₁
  obtain ⟨p, vs, m, rfl, hp, ⟨va, r1, rfl, ra, vb, r2, rfl, rb, vc, r3, rfl, rc, rfl⟩, hl⟩ := r₁
  refine wpAny_assign_Tuple (s := { s with heap := h₁, toks := t₁ }) (items := [va, vb, vc].toArray) ok.hd ⟨_, hp.1, rfl, m, rfl⟩ rfl rfl fun h₂ hx₂ => ?_
  have k₂ : Kf f.fs h₁ h₂ := Kf.of_keeps fun b o e => hx₂ b o (Nat.ne_of_lt (Heap.lt_size e)) e
  have S₂ := S₁.mono ok k₂
  show wpAny _ _ (assignInOrder [PySem.assign (.Name x xp) f.env, PySem.assign (.Name y yp) f.env, PySem.assign (.Name z zp) f.env] [va, vb, vc]) _ _ _
  unfold assignInOrder
  refine wpAny_bind (wpAny_holding (wpAny_assign_Name (store_sh (s := { s with heap := h₂, toks := t₁ }) ok S₂ hx (rmono S ra k₂) fun h₃ tk₃ S₃ T₃ => ?_)))
  have up : ∀ {ρ' ρ'' : En} {h h' : Heap} {d : V} {v : Value}, St g f σ ρ' h → Trn f σ ρ' h σ ρ'' h' → Rep g.C h (XOf f σ ρ') d v → Rep g.C h' (XOf f σ ρ'') d v := fun {ρ' ρ'' h h' d v} S T r =>
    r.mono (T.kx S) fun b m => by
      rcases m with m | m | m
      · exact .inl (.inl m)
      · exact .inl (.inr (.inl m))
      · exact (T.own b m).elim (fun m => .inl (.inr (.inr m))) .inr
  unfold assignInOrder
  refine wpAny_bind (wpAny_holding (wpAny_assign_Name (store_sh (s := { s with heap := h₃, toks := tk₃ }) ok S₃ hy (up S₂ T₃ (rmono S rb k₂)) fun h₄ tk₄ S₄ T₄ => ?_)))
  unfold assignInOrder
  refine wpAny_bind (wpAny_holding (wpAny_assign_Name (store_sh (s := { s with heap := h₄, toks := tk₄ }) ok S₄ hz (up S₃ T₄ (up S₂ T₃ (rmono S rc k₂))) fun h₅ tk₅ S₅ T₅ => ?_)))
  unfold assignInOrder
  exact wpAny_pure (Ex.after (σ := σ) (ρ := ρ) (s := s) h S₅ ((((k₁.trans k₂).trn).trans T₃).trans (T₄.trans T₅)) q ex)
end
theorem w_make (C : Addr) (rest : List Value) (kw : List (Str × Value)) : (Code.builtin "type.__call__" ⟨.ref C :: rest, kw⟩).weight = 1 := by
  simp [Code.weight, Code.frames, Code.isFrame, Code.isCreation, Code.isGuard, Code.isCaller]; decide +kernel
theorem u_make (C : Addr) (rest : List Value) (kw : List (Str × Value)) : (Code.builtin "type.__call__" ⟨.ref C :: rest, kw⟩).cUnits = 1 := by
  simp [Code.cUnits, Code.frames, Code.isFrame]
theorem e_make (C : Addr) (rest : List Value) (kw : List (Str × Value)) : (Code.builtin "type.__call__" ⟨.ref C :: rest, kw⟩).envs = [] := by
  simp [Code.envs, Code.isFrame]
theorem name_tup {C : Addr} {h : Heap} {X : Addr → Prop} : ∀ {ls : List (List UInt8)} {vs : List Value}, RepL C h X (ls.map .bytes) vs → (∀ b ∈ ls, b.length ≤ sizeLine) ∧ ∃ tks : List Tok, tks.length = ls.length ∧ vs = (ls.zip tks).map fun p => .bytes p.1.toArray p.2
  | [], _, r => by simp only [List.map_nil, RepL] at r; subst r; exact ⟨(fun _ h => nomatch h), [], rfl, rfl⟩
  | b :: bs, _, r => by
    simp only [List.map_cons, RepL, Rep] at r
    obtain ⟨v, t, rfl, ⟨⟨u, rfl⟩, hl⟩, r2⟩ := r
    obtain ⟨h1, tks, h2, h3⟩ := name_tup r2
    exact ⟨fun b' hb => (List.mem_cons.mp hb).elim (fun z => z ▸ hl) (h1 b'), u :: tks, by simp [h2], by simp [h3]⟩
def InitO : Res → Out → Prop
  | .ok (.name ls), o => ∃ ρ, o = .next ρ ∧ ρ[0]? = some (some (.me (some ls)))
  | .ok _, _ => False
  | .exc c, o => ∃ ρ, o = .exc c ρ
def meEn (k : Nat) (ds : List V) : En := some (B.me none) :: shEn k ds
theorem meEn_own {k : Nat} {ds : List V} {i : Nat} (h : Own (meEn k ds) i) : i = 0 := by
  cases i with
  | zero => rfl
  | succ j => obtain ⟨b, hb, ho⟩ := h; exact (shEn_own ⟨b, by simpa [meEn] using hb, ho⟩).elim
theorem Fn.make {g : GI} {n : Nat} {fI : Addr} {ds : List V} {r : Res} {names loc : List Str} {name qual : Str} {params : Arguments} {body : List Stmt} {scope : Scope} {dV kV doc pm cdv ct oc : Value} {an od : Option Addr} {osl : Array (Option Value)}
    (hmk : makesIn g.K g.C = true) (hi : findIn g.K (.ref g.C) "__init__" = some (some (.ref fI))) (hf : typeIn g.K (.ref fI) = some (.type "function"))
    (ho : g.K.lookup fI = some ⟨oc, od, .func (fnOf name qual params body scope dV kV doc pm an cdv ct), osl⟩) (hcd : codeIn g.K cdv qual = true)
    (hbind : ∀ (vs : List Value) (s : Shared), vs.length = ds.length + 1 → g.K.In s.heap → BindsTo s (fnOf name qual params body scope dV kV doc pm an cdv ct) ⟨vs, []⟩ (names.zip vs))
    (hn : (names ++ loc).Nodup) (hlen : names.length = ds.length + 1) (hloc : ∀ y ∈ names ++ loc, scope.names.lookup y = some .local) (hdb : ∀ x ∈ names ++ loc, (x == ("__debug__" : Str)) = false)
    (hb : ∀ f : Fm, FmOk g f n → f.env.scope = scope → f.xs = names ++ loc → f.ys = [] → f.env.cells = [] → Ex g f (meEn loc.length ds) body (InitO r))
    (hco : scope.isCoroutine = false := by rfl) (hgen : scope.isGenerator = false := by rfl) (hk : scope.kind = .function := by rfl) (hcell : ∀ x ∈ scope.names, x.2 ≠ .cell := by decide) :
    Fn g (n + 2) (.ref g.C) ds r := by
  intro A l Y vs s R ok hA hh room cs hY hYex hY0 hr q ex
  obtain ⟨h0, gs, dr, tk0, os⟩ := s
  dsimp only at cs hYex hr q ex
  have X0 : g.K.In h0 := ok.X.keeps cs.keep
  have hvl : vs.length = ds.length := RepL.length hr
  have nD : h0.get? h0.objs.size = none := none_of_ge (Nat.le_refl _)
  have nX : h0.get? (h0.objs.size + 1) = none := none_of_ge (Nat.le_succ _)
  have nL : h0.get? (h0.objs.size + 2) = none := none_of_ge (by omega)
  have h00 : ∀ {a}, h0.get? a = none → g.H0.get? a = none := fun {a} e => by
    cases z : g.H0.get? a with
    | none => rfl
    | some o => rw [cs.keep a o z] at e; cases e
  have nY : ∀ {a}, h0.get? a = none → ¬ Y a := fun {a} e m => by obtain ⟨o, z⟩ := hYex a m; rw [e] at z; cases z
  refine make_core (makes_of X0 hmk) (looks_findIn X0 hi) (fun self => bind_fn X0 self hf) (.inl rfl) ?_
  have k01 : ∀ b o, h0.get? b = some o → ((h0.push emptyDict).push (instObj g.C h0.objs.size)).get? b = some o := fun b o e => Heap.get?_push_of_some _ (Heap.get?_push_of_some _ e)
  have hx : ((h0.push emptyDict).push (instObj g.C h0.objs.size)).get? (h0.objs.size + 1) = some (instObj g.C h0.objs.size) := by heap_get
  have hdx : ((h0.push emptyDict).push (instObj g.C h0.objs.size)).get? h0.objs.size = some emptyDict := Heap.get?_push_of_some _ (Heap.get?_push_size _ rfl)
  have hsz : ((h0.push emptyDict).push (instObj g.C h0.objs.size)).objs.size = h0.objs.size + 2 := by rw [Heap.size_push, Heap.size_push]
  generalize hH : (h0.push emptyDict).push (instObj g.C h0.objs.size) = H at *
  have X : g.K.In H := X0.keeps k01
  have fr' : (A.under (.builtin "type.__call__" ⟨.ref g.C :: vs, []⟩)).frames = some l := by
    have e : (A.under (.builtin "type.__call__" ⟨.ref g.C :: vs, []⟩)).frames = pushEnvs (Code.builtin "type.__call__" ⟨.ref g.C :: vs, []⟩).envs A.frames := rfl
    rw [e, e_make]; exact hA
  have dep : (A.under (.builtin "type.__call__" ⟨.ref g.C :: vs, []⟩)).depth = A.depth + 1 := by
    show A.depth + _ = _; rw [w_make]
  have uni : (A.under (.builtin "type.__call__" ⟨.ref g.C :: vs, []⟩)).units = A.units + 1 := by
    show A.units + _ = _; rw [u_make]
  have hd' : (A.under (.builtin "type.__call__" ⟨.ref g.C :: vs, []⟩)).handled = none := hh
  generalize A.under (.builtin "type.__call__" ⟨.ref g.C :: vs, []⟩) = A' at *
  have hnn : names.Nodup := (List.nodup_append.mp hn).1
  refine codeAny_call_def (s := ⟨H, gs, dr, tk0, os⟩) (fd := fnOf name qual params body scope dV kV doc pm an cdv ct) (body := body) (binds := names.zip (.ref (h0.objs.size + 1) :: vs)) (by have := room.1; omega) (X _ _ ho) rfl
    ((ok.T.nolimit.keeps cs.keep).keeps k01) (codeRec_of X hcd) rfl (hbind (.ref (h0.objs.size + 1) :: vs) ⟨H, gs, dr, tk0, os⟩ (by simp [hvl]) X) hcell (fun y hy => hloc _ (List.mem_append_left _ (List.of_mem_zip (a := y.1) (b := y.2) hy).1)) (fun h₁ hns hk₁ => ?_) hco hgen hk
  dsimp only at hns hk₁
  have k02 : ∀ b o, h0.get? b = some o → h₁.get? b = some o := fun b o e => hk₁ b o (k01 b o e)
  let f : Fm := ⟨envOf qual scope H.objs.size fI cdv, A'.deeper (envOf qual scope H.objs.size fI cdv), envOf qual scope H.objs.size fI cdv :: l, l, h0, names ++ loc, []⟩
  have fL : f.L = h0.objs.size + 2 := hsz
  have fok : FmOk g f n := {
    G := ok
    fr := Around.frames_deeper fr'
    hd := hd'
    room := ⟨by show A'.depth + 1 + 3 * n < recursionLimit; have := room.1; omega, by show A'.units + 3 + 8 * n < cLine; have := room.2; omega⟩
    kind := hk
    eG := rfl
    eB := rfl
    stk := fun h ⟨o, e, hd⟩ ff => ⟨by show scope.kind ≠ .module; rw [hk]; decide, ⟨_, o, rfl, h00 (by rw [hsz]; exact nL), e, hd⟩, ff⟩
    sub := fun b hb => hb
    big := ok.big X
    newL := by show h0.get? H.objs.size = none; rw [hsz]; exact nL
    newL0 := h00 (by show h0.get? H.objs.size = none; rw [hsz]; exact nL)
    nodup := by show (names ++ loc ++ []).Nodup; rw [List.append_nil]; exact hn
    loc := hloc
    cel := fun x hx => nomatch hx
    ndb := by show ∀ x ∈ names ++ loc ++ [], _; rw [List.append_nil]; exact hdb
    csE := cs }
  have S : St g f ⟨Y, fun _ => h0.objs.size⟩ (meEn loc.length ds) h₁ := by
    have hX : ∀ b, XOf f ⟨Y, fun _ => h0.objs.size⟩ (meEn loc.length ds) b → Y b ∨ h0.get? b = none := fun b hb => by
      rcases hb with hb | hb | ⟨i, hi, hb⟩
      · exact .inl hb
      · right; rw [hb, fL]; exact nL
      · right; rw [hb]; exact nD
    have nne : h0.objs.size + 1 ≠ h0.objs.size := Nat.succ_ne_self _
    have nX' : ¬ XOf f ⟨Y, fun _ => h0.objs.size⟩ (meEn loc.length ds) (h0.objs.size + 1) := fun hb => by
      rcases hb with hb | hb | ⟨i, hi, hb⟩
      · exact nY nX hb
      · rw [fL] at hb; exact absurd (Nat.succ.inj hb : h0.objs.size = h0.objs.size + 1) (Nat.ne_of_lt (Nat.lt_succ_self _))
      · exact nne hb
    refine ⟨⟨_, hns, ?_⟩, cs.mono (fs := []) (fun b hb => nomatch hb) (Kf.of_keeps k02), Kf.of_keeps k02, fun i j hi hj _ => (meEn_own hi).trans (meEn_own hj).symm, fun i hi => ⟨nD, by rw [fL]; exact Nat.ne_of_lt (Nat.lt_add_of_pos_right (by decide)), h00 nD⟩, by simp [meEn, shEn, f, hlen]; omega, hY, fun b hb => let ⟨o, e⟩ := hYex b hb; ⟨o, k02 b o e⟩, fun i hi => nY nD, hY0⟩
    intro i x b hx' hb
    have hx' : (names ++ loc)[i]? = some x := by
      rw [← hx']; show _ = (names ++ loc ++ [])[i]?
      rw [List.append_nil]
    cases i with
    | zero =>
      have hb : b = .me none := by simpa [meEn] using hb.symm
      subst hb
      have hx0 : names[0]? = some x := by rw [← hx']; exact (List.getElem?_append_left (by omega)).symm
      exact ⟨rfl, lookup_zip hnn hx0 rfl, hk₁ _ _ hx, nX', hk₁ _ _ hdx⟩
    | succ j =>
      have hb : (shEn loc.length ds)[j]? = some (some b) := by simpa [meEn] using hb
      obtain ⟨d, hd, rfl⟩ := shEn_get hb
      have hj : j + 1 < names.length := by have := (List.getElem?_eq_some_iff.mp hd).1; omega
      have hx1 : names[j + 1]? = some x := by rw [← hx']; exact (List.getElem?_append_left hj).symm
      have rr : RepL g.C h₁ (XOf f ⟨Y, fun _ => h0.objs.size⟩ (meEn loc.length ds)) ds vs := hr.mono (fun b o e _ => k02 b o e) hX
      obtain ⟨v, ev, rv⟩ := rr.get hd
      exact ⟨v, lookup_zip hnn hx1 (by simpa using ev), rv⟩
  refine hb f fok rfl rfl rfl rfl _ ⟨h₁, gs, dr, tk0 + (names.zip (.ref (h0.objs.size + 1) :: vs)).length, os⟩ _ _ S (fun fl o h' tk ho hok => ?_) (fun c ρ' e h' tk ho hx => ?_)
  · cases r with
    | exc c => obtain ⟨ρ', rfl⟩ := ho; exact hok.elim
    | ok d =>
      cases d with
      | name ls =>
        obtain ⟨ρ', rfl, h0'⟩ := ho
        obtain ⟨rfl, σ', S', T'⟩ := hok
        obtain ⟨a0, a1, a2, hs, tkk, t, m, a4, a5⟩ := S'.me h0'
        refine ⟨rfl, ?_⟩
        have a0' : σ'.α 0 = h0.objs.size := a0
        rw [← a0']
        refine q _ _ h' tk rfl S'.kE ?_
        have hYY : ∀ b, Y b → XOf f σ' ρ' b := fun b hb => .inl (by rw [T'.Y]; exact hb)
        simp only [Rep] at a5 ⊢
        obtain ⟨t', us, cc, e1, e2, e3, e4⟩ := a5
        injection e1 with e1; subst e1
        obtain ⟨n1, tks, n2, n3⟩ := name_tup e3
        exact ⟨_, _, hs, tkk, t, us, cc, m, rfl, ⟨a1, fun z => a2 (hYY _ z)⟩, ⟨a4, fun z => S'.offY 0 ⟨_, h0', rfl⟩ (by rw [T'.Y]; exact z)⟩, ⟨e2.1, fun z => e2.2 (hYY _ z)⟩, e4, n1, tks, n2, n3⟩
      | _ => exact ho.elim
  · cases r with
    | ok d => cases d <;> first | exact ho.elim | (obtain ⟨_, ho, _⟩ := ho; cases ho)
    | exc c' =>
      obtain ⟨ρ'', ho⟩ := ho
      injection ho with e1 e2; subst e1 e2
      exact leave_exc (s' := { heap := h', gens := gs, drawn := dr, toks := tk, os := os }) fok rfl rfl hx fun h'' a0 k fl => ex c e a0 h'' tk rfl k fl
section
variable {g : GI} {f : Fm} {n m : Nat} {ρ : En}
theorem St.fr {σ : Sp} {h : Heap} (ok : FmOk g f n) (S : St g f σ ρ h) : ∃ H1 m, g.K.In H1 ∧ Fr H1 f.L h m := by
  obtain ⟨H1, hK, hk, hz⟩ := ok.G.low
  obtain ⟨m, hns, _⟩ := S.ex
  exact ⟨H1, m, hK, hns, fun b o e => S.cs.keep b o (hk b o e), Nat.le_trans hz ok.big⟩
theorem Op2.cmpName {op : CmpOp} {fa : Addr} {a b : List (List UInt8)} {r : Bool} (hm : m ≤ n) (hn : notFirst g.K g.C (.ref g.C) = true) (hs : findIn g.K (.ref g.C) (cmpInfo op).2.1 = some (some (.ref fa))) (hf : isFn g.K (.ref fa) = true)
    (hF : Fn g m (.ref fa) [.name a, .name b] (.ok (.bool r))) (hop : compareOp op = richCompare op := by rfl) : Op2 g n (compareOp op) (.name a) (.name b) (.ok (.bool r)) := fun f ρ σ s Q E va vb ok S ra rb q ex => by
  rw [hop]
  obtain ⟨x, dx, t, h1, tk, nn, rfl, I, _⟩ := name_inst ra
  obtain ⟨y, dy, t', h2, tk', nn', rfl, J, _⟩ := name_inst rb
  obtain ⟨H1, mm, hK, F⟩ := S.fr ok
  refine cmp_K (by have := ok.room.2; omega) F hK I J.type hn hs hf ?_
  refine call_of ok hm S (by simp only [RepL]; exact ⟨_, _, rfl, ra, _, _, rfl, rb, rfl⟩) hF (fun v d h' tk e k rep => ?_) fun c e' h' tk ec => nomatch ec
  injection e with e; subst e
  have : v = .bool r := by simpa [Rep] using rep
  subst this
  exact q _ _ h' tk rfl k rep
theorem Op2.binName {op : Operator} {fa : Addr} {a b : List (List UInt8)} {r : Res} (hm : m ≤ n) (hc : selfFirst g.K g.C = true) (hs : findIn g.K (.ref g.C) (PySem.dunder op.info.2) = some (some (.ref fa))) (hf : isFn g.K (.ref fa) = true)
    (hF : Fn g m (.ref fa) [.name a, .name b] r) (hr : ∀ d, r = .ok d → ∃ ls, d = .name ls) : Op2 g n (binaryOp op) (.name a) (.name b) r := fun f ρ σ s Q E va vb ok S ra rb q ex => by
  obtain ⟨x, dx, t, h1, tk, nn, rfl, I, _⟩ := name_inst ra
  obtain ⟨y, dy, t', h2, tk', nn', rfl, J, _⟩ := name_inst rb
  obtain ⟨H1, mm, hK, F⟩ := S.fr ok
  refine binop_K F hK I J.type hc hs hf ?_
  refine call_of ok hm S (by simp only [RepL]; exact ⟨_, _, rfl, ra, _, _, rfl, rb, rfl⟩) hF (fun v d h' tk e k rep => ?_) fun c e' h' tk ec fl => ex c e' h' tk ec fl
  obtain ⟨ls, rfl⟩ := hr d e
  have : ∃ z, v = .ref z := by simp only [Rep] at rep; obtain ⟨z, _, _, _, _, _, _, _, e, _⟩ := rep; exact ⟨z, e⟩
  obtain ⟨z, rfl⟩ := this
  exact q _ _ h' tk e k rep
theorem Ev.isInst {y : Str} {np yp pos : Pos} {e : Expr} {d : V} {T : Value} (ok : FmOk g f n) (hx : f.env.kindOf "isinstance" = some .globalImplicit) (gv : GV g "isinstance" (.builtin "isinstance")) (hy : f.env.kindOf y = some .globalImplicit) (gy : GV g y T)
    (he : Ev g f ρ e (.ok d)) (ht : (∃ b, d = .bytes b ∧ T = .type "bytes") ∨ (∃ ls, d = .name ls ∧ T = .ref g.C ∧ isIn g.K (.ref g.C) g.C = true))
    (hh : starEach [e, .Name y yp] f.env = (false, eval e f.env) :: starEach [.Name y yp] f.env := by rfl) :
    Ev g f ρ (.Call (.Name "isinstance" np) [e, .Name y yp] [] pos) (.ok (.bool true)) := fun σ s Q E S q ex => by
  refine wpAny_Call_ofName (gv f n np s _ _ ok hx S.cs ?_)
  refine callWith_of (P := fun h => g.K.In h) (by rw [hh]; rfl) (kept_looks kept_builtin) ?_
  rw [hh]
  refine evalArgs_plain (x := eval e f.env) (rest := backTo pos (starEach [.Name y yp] f.env)) ?_
  refine spliced_cons (x := eval e f.env) (rest := backTo pos (starEach [.Name y yp] f.env)) ?_
  refine he σ s _ _ S (fun v d' h₁ t₁ ed k₁ r₁ => ?_) fun c e' h' tk ec => nomatch ec
  injection ed with ed; subst ed
  have S₁ := S.mono ok k₁
  have X : g.K.In h₁ := ok.G.X.keeps S₁.cs.keep
  have e2 : starEach [.Name y yp] f.env = [(false, eval (.Name y yp) f.env)] := rfl
  rw [e2]
  refine spliced_cons (x := eval (.Name y yp) f.env) (rest := backTo pos []) (gy f n yp { s with heap := h₁, toks := t₁ } _ _ ok hy S₁.cs (spliced_nil ⟨X, ?_⟩))
  have fin : Q (.bool true) { s with heap := h₁, toks := t₁ } := q _ _ h₁ t₁ rfl k₁ (by simp only [Rep])
  rcases ht with ⟨b, rfl, rfl⟩ | ⟨ls, rfl, rfl, hi⟩
  · simp only [Rep] at r₁
    obtain ⟨⟨t, rfl⟩, _⟩ := r₁
    exact call_isinstance_yes (s := { s with heap := h₁, toks := t₁ }) rfl (by rfl) F.sub_bytes_bytes fin
  · obtain ⟨x, dx, t, h1, tk, nn, rfl, I, _⟩ := name_inst r₁
    exact isi_call (s := { s with heap := h₁, toks := t₁ }) (t := .ref g.C) X (fun M => I.type) hi (fun e => nomatch e) fin
end
section
variable {g : GI} {f : Fm} {n m : Nat} {ρ : En}
theorem Ev.cell {x : Str} {pos : Pos} {d : V} (ok : FmOk g f n) (i : Nat) (hx : f.nm[i]? = some x) (hy : x ∈ f.ys) (hm : ρ[i]? = some (some (.ce (some d)))) : Ev g f ρ (.Name x pos) (.ok d) := fun σ s Q E S q _ => by
  obtain ⟨m, hns, hv⟩ := S.ex
  obtain ⟨hl, v, hc, r⟩ := hv i x _ hx hm
  exact wpAny_Name (wpAny_loadName_cell ok.kind (ok.cel x hy) hl hc (q v d s.heap s.toks rfl (Kf.refl _ _) r)) (ok.ndb x (List.mem_append_right _ hy))
theorem Ev.cellB {x : Str} {pos : Pos} {d : V} (ok : FmOk g f n) (i : Nat) (hx : f.nm[i]? = some x) (hy : x ∈ f.ys) (hm : ρ[i]? = some (some (.bc d))) : Ev g f ρ (.Name x pos) (.ok d) := fun σ s Q E S q _ => by
  obtain ⟨m, hns, hv⟩ := S.ex
  obtain ⟨c, v, hl, ⟨o, hc, hd⟩, hf, r⟩ := hv i x _ hx hm
  exact wpAny_Name (wpAny_loadName_cell ok.kind (ok.cel x hy) hl ⟨o, (S.kE c o hc).1 hf, hd⟩ (q v d s.heap s.toks rfl (Kf.refl _ _) r)) (ok.ndb x (List.mem_append_right _ hy))
theorem store_cell {x : Str} {i : Nat} {o : Option V} {v : Value} {d : V} {σ : Sp} {s : Shared} {Q : Unit → Shared → Prop} {E : Value → Shared → Prop} (ok : FmOk g f n) (S : St g f σ ρ s.heap) (hx : f.nm[i]? = some x) (hy : x ∈ f.ys) (hm : ρ[i]? = some (some (.ce o)))
    (r : Rep g.C s.heap (XOf f σ ρ) d v) (h : ∀ h', St g f σ (ρ.set i (some (.ce (some d)))) h' → Trn f σ ρ s.heap σ (ρ.set i (some (.ce (some d)))) h' → Q () { s with heap := h' }) : wpAny (model g.prog g.w) f.A (storeName f.env x v) Q E s := by
  have ex := S.ex
  obtain ⟨m, hns, hv⟩ := ex
  obtain ⟨hl, hc⟩ := hv i x _ hx hm
  have isC : ∃ v₀, s.heap.IsCell (σ.α i) v₀ := by
    cases o with
    | none => exact ⟨_, hc⟩
    | some d₀ => obtain ⟨v₀, hc, _⟩ := hc; exact ⟨_, hc⟩
  obtain ⟨v₀, hc⟩ := isC
  refine wpAny_storeName_cell ok.kind (ok.cel x hy) hl hc fun h' hc' hs => ?_
  have aX : XOf f σ ρ (σ.α i) := .inr (.inr ⟨i, ⟨_, hm, rfl⟩, rfl⟩)
  have kx : KX (XOf f σ ρ) s.heap h' := fun c o ec nc => (hs.2 c fun z => nc (z ▸ aX)).trans ec
  obtain ⟨S₂, T₂⟩ := S.turn ok hm rfl (b' := .ce (some d)) rfl hs fun m₀ x₀ a₀ hv₀ ea => by
    subst ea
    have sub : ∀ b, XOf f σ (ρ.set i (some (.ce (some d)))) b → XOf f σ ρ b ∨ s.heap.get? b = none := fun b hb' => .inl ((X_set hm rfl rfl b).mp hb')
    exact ⟨hv₀.1, v, hc', r.mono kx sub⟩
  exact h h' S₂ T₂
theorem Ex.assignC {x : Str} {xp pos : Pos} {e : Expr} {rest : List Stmt} {o : Option V} {d : V} {O : Out → Prop} (ok : FmOk g f n) (i : Nat) (hx : f.nm[i]? = some x) (hy : x ∈ f.ys) (hm : ρ[i]? = some (some (.ce o))) (he : Ev g f ρ e (.ok d)) (h : Ex g f (ρ.set i (some (.ce (some d)))) rest O)
    (hs : swapsWith e (some (.Name x xp)) pos.line f.env = pure false := by rfl) : Ex g f ρ (.Assign [.Name x xp] e pos :: rest) O := fun σ s Q E S q ex => by
  refine wpAny_execs_cons (wpAny_Assign_Name (he σ s _ _ S (fun v d' h' tk er k rep => ?_) fun c e' h' tk er fl => nomatch er) hs)
  injection er with er; subst er
  exact store_cell (s := { s with heap := h', toks := tk }) ok (S.mono ok k) hx hy hm rep fun h'' S' T' => Ex.after (σ := σ) (ρ := ρ) (s := s) h S' ((k.trn).trans T') q ex
theorem Ex.augC {x : Str} {xp pos : Pos} {op : Operator} {e : Expr} {rest : List Stmt} {a b c : V} {O : Out → Prop} (ok : FmOk g f n) (i : Nat) (hx : f.nm[i]? = some x) (hy : x ∈ f.ys) (hm : ρ[i]? = some (some (.ce (some a)))) (he : Ev g f ρ e (.ok b)) (ho : Op2 g n (inplaceOp op) a b (.ok c))
    (h : Ex g f (ρ.set i (some (.ce (some c)))) rest O) : Ex g f ρ (.AugAssign (.Name x xp) op e pos :: rest) O := fun σ s Q E S q ex => by
  have ex' := S.ex
  obtain ⟨m, hns, hv⟩ := ex'
  obtain ⟨hl, v, hc, rv⟩ := hv i x _ hx hm
  refine wpAny_execs_cons (wpAny_AugAssign_Name (wpAny_loadName_cell ok.kind (ok.cel x hy) hl hc (he σ s _ _ S (fun u d h₁ t₁ e k₁ ru => ?_) fun c e' h' tk ec => nomatch ec)))
  injection e with e; subst e
  refine ho f ρ σ { s with heap := h₁, toks := t₁ } _ _ v u ok (S.mono ok k₁) (rmono S rv k₁) ru (fun w d h₂ t₂ e k₂ rw' => ?_) fun c e' h' tk ec => nomatch ec
  injection e with e; subst e
  exact store_cell (s := { s with heap := h₂, toks := t₂ }) ok (S.mono ok (k₁.trans k₂)) hx hy hm rw' fun h'' S' T' => Ex.after (σ := σ) (ρ := ρ) (s := s) h S' (((k₁.trans k₂).trn).trans T') q ex
theorem CompOk.cell {x y : Str} {iter elt : Expr} {scope : Scope} {items es : List V} {d₀ : V} (ok : FmOk g f n) (i : Nat) (hy : f.nm[i]? = some y) (hym : y ∈ f.ys) (hm : ρ[i]? = some (some (.ce (some d₀)))) (sc : CompS f scope x [y])
    (hcl : ∀ c, f.env.cells.lookup y = some c → closureFor scope f.env = pure [(y, c)])
    (hi : ItSrc g f ρ iter items) (hlen : items.length ≤ sizeLine) (hes : es.length = items.length)
    (he : ∀ (k : Nat) (d e : V), items[k]? = some d → es[k]? = some e → ∀ f' : Fm, FmOk g f' n → f'.env.scope = relabel scope f.env → f'.xs = [x] → f'.ys = [y] → Ev g f' [some (.sh d), some (.bc d₀)] elt (.ok e))
    (hex : ∃ c, f.env.cells.lookup y = some c)
    (hs : ∀ x, foldedSetIterable iter f.env x = pure x := by intro _; rfl) : CompOk g f n ρ x iter elt scope es := by
  obtain ⟨c, hc⟩ := hex
  refine ⟨⟨items, [d₀], [y], [(y, c)], sc, hi, hlen, hes, fun σ h S => ⟨hcl c hc, by simp, fun j z d hz hd => ?_⟩, he⟩, hs⟩
  cases j with
  | succ j => simp at hz
  | zero =>
    simp at hz hd; subst hz; subst hd
    have ex' := S.ex
    obtain ⟨m, hns, hv⟩ := ex'
    obtain ⟨hl, v, hcell, rv⟩ := hv i y _ hy hm
    rw [hc] at hl; injection hl with hl
    have fr := S.fresh i ⟨_, hm, rfl⟩
    exact ⟨c, v, by simp, by rw [hl]; exact hcell, by rw [hl]; exact own_off ok fr.1 fr.2.1, rv⟩
end
def ArgOk (g : GI) (h : Heap) (l : List Env) (Y : Addr → Prop) : B → Value → Prop
  | .sh d, v => Rep g.C h Y d v
  | .bo ds, v => ∃ a us m, v = .ref a ∧ h.get? a = some (lobj us m) ∧ a ∉ fsOf l ∧ RepL g.C h Y ds us ∧ us.length ≤ sizeLine
  | _, _ => False
theorem ArgOk.owns {g : GI} {h : Heap} {l : List Env} {Y : Addr → Prop} {b : B} {v : Value} (x : ArgOk g h l Y b v) : b.owns = false := by cases b <;> first | rfl | exact x.elim
theorem ArgOk.var {g : GI} {f : Fm} {h₁ : Heap} {Y X : Addr → Prop} {b : B} {v : Value} {m : Str → Option Value} {a : Addr} {x : Str} (r : ArgOk g f.hE f.outer Y b v) (hk : ∀ b o, f.hE.get? b = some o → h₁.get? b = some o) (hX : ∀ b, X b → Y b ∨ f.hE.get? b = none) (hm : m x = some v) :
    VarOk g f h₁ X m a x b := by
  cases b with
  | sh d => exact ⟨v, hm, Rep.mono (fun b o e _ => hk b o e) hX r⟩
  | bo ds => obtain ⟨a, us, mm, rfl, e1, e2, e3, e4⟩ := r; exact ⟨a, us, mm, hm, e1, e2, e3.mono (fun b o e _ => hk b o e) hX, e4⟩
  | _ => exact r.elim
def ArgsOk (g : GI) (h : Heap) (l : List Env) (Y : Addr → Prop) (bs : List B) (vs : List Value) : Prop := vs.length = bs.length ∧ ∀ (i : Nat) (b : B) (v : Value), bs[i]? = some b → vs[i]? = some v → ArgOk g h l Y b v
def FnA (g : GI) (n : Nat) (fv : Value) (bs : List B) (r : Res) : Prop :=
  ∀ (A : Around) (l : List Env) (Y : Addr → Prop) (vs : List Value) (s : Shared) (R : Result → Shared → Prop), g.Ok → A.frames = some l → A.handled = none → Room A n →
    CallSt g l s.heap → (∀ b ∈ fsOf l, Y b) → (∀ b, Y b → ∃ o, s.heap.get? b = some o) → (∀ b, Y b → g.H0.get? b = none) → ArgsOk g s.heap l Y bs vs →
    (∀ v d h' tk, r = .ok d → Kf (fsOf l) s.heap h' → Rep g.C h' Y d v → R (.ok (.ret v)) { s with heap := h', toks := tk }) →
    (∀ c e a0 h' tk, r = .exc c → Kf (fsOf l) s.heap h' → Heap.FlyingW (hideAll s.heap (fsOf l)) l e c a0 h' → R (.error (.ref e)) { s with heap := h', toks := tk }) →
    codeAny (model g.prog g.w) A (.call fv ⟨vs, []⟩) R s
theorem FnA.fnB {g : GI} {n : Nat} {fv : Value} {ds es : List V} {r : Res} (h : FnA g n fv (ds.map .sh ++ [.bo es]) r) : FnB g n fv ds es r := fun A l Y vs us a mm s R ok hA hh room cs hY hYex hY0 hr ha hal hus huz q ex =>
  h A l Y (vs ++ [.ref a]) s R ok hA hh room cs hY hYex hY0 ⟨by simp [RepL.length hr], fun i b v hb hv => by
    have hvl := RepL.length hr
    rcases Nat.lt_or_ge i ds.length with hi | hi
    · rw [List.getElem?_append_left (by simpa using hi)] at hb
      rw [List.getElem?_append_left (by omega)] at hv
      simp only [List.getElem?_map] at hb
      cases z : ds[i]? with
      | none => rw [z] at hb; cases hb
      | some d =>
        rw [z] at hb; simp at hb; subst hb
        obtain ⟨v', e, r⟩ := RepL.get hr z
        rw [e] at hv; injection hv with hv; subst hv; exact r
    · rw [List.getElem?_append_right (by simpa using hi)] at hb
      rw [List.getElem?_append_right (by omega)] at hv
      simp only [List.length_map, hvl] at hb hv
      cases z : i - ds.length with
      | zero => rw [z] at hb hv; simp at hb hv; subst hb; subst hv; exact ⟨a, us, mm, rfl, ha, hal, hus, huz⟩
      | succ j => rw [z] at hb; simp at hb⟩ q ex
theorem bindL_zip {kindOf : Str → Option NameKind} : ∀ {names : List Str} {vs : List Value} {m : Str → Option Value}, (∀ y ∈ names, kindOf y = some .local) →
    (∀ y, y ∉ names → bindL kindOf (names.zip vs) m y = m y) ∧ (names.Nodup → ∀ (i : Nat) (x : Str) (v : Value), names[i]? = some x → vs[i]? = some v → bindL kindOf (names.zip vs) m x = some v)
  | [], vs, m, hl => ⟨fun _ _ => rfl, fun _ i x v hx => by simp at hx⟩
  | y :: ys, [], m, hl => ⟨fun _ _ => rfl, fun _ i x v _ hv => by simp at hv⟩
  | y :: ys, u :: us, m, hl => by
    have hy : kindOf y = some .local := hl y (.head _)
    obtain ⟨ih1, ih2⟩ := @bindL_zip kindOf ys us (fun z => if z = y then some u else m z) fun z hz => hl z (.tail _ hz)
    have e : bindL kindOf ((y :: ys).zip (u :: us)) m = bindL kindOf (ys.zip us) (fun z => if z = y then some u else m z) := by
      simp only [List.zip_cons_cons, bindL, hy, if_true]
    refine ⟨fun z hz => ?_, fun hn i x v hx hv => ?_⟩
    · rw [e, ih1 z fun h => hz (.tail _ h)]
      simp [show z ≠ y from fun h => hz (h ▸ .head _)]
    · rw [e]
      obtain ⟨n1, n2⟩ := List.nodup_cons.mp hn
      cases i with
      | zero => simp at hx hv; subst hx; subst hv; rw [ih1 y n1]; simp
      | succ i => simp at hx hv; exact ih2 n2 i x v hx hv
theorem bindC_zip {kindOf : Str → Option NameKind} {m : Str → Option Value} : ∀ {names : List Str} {vs : List Value}, (∀ y ∈ names, kindOf y = some .local) → bindC kindOf (names.zip vs) m = m
  | [], _, _ => rfl
  | _ :: _, [], _ => rfl
  | y :: ys, u :: us, hl => by
    simp only [List.zip_cons_cons, bindC, hl y (.head _), if_true]
    exact bindC_zip fun z hz => hl z (.tail _ hz)
def ceEn (k : Nat) (bs : List B) : En := bs.map some ++ (List.replicate k none ++ [some (.ce none)])
theorem ceEn_get {k : Nat} {bs : List B} {i : Nat} {b : B} (h : (ceEn k bs)[i]? = some (some b)) : bs[i]? = some b ∨ (i = bs.length + k ∧ b = .ce none) := by
  unfold ceEn at h
  rcases Nat.lt_or_ge i bs.length with hi | hi
  · rw [List.getElem?_append_left (by simpa using hi)] at h
    simp only [List.getElem?_map] at h
    cases q : bs[i]? with
    | none => rw [q] at h; cases h
    | some d => rw [q] at h; simp at h; exact .inl (by rw [h])
  · rw [List.getElem?_append_right (by simpa using hi)] at h
    simp only [List.length_map] at h
    right
    rcases Nat.lt_or_ge (i - bs.length) k with hj | hj
    · rw [List.getElem?_append_left (by simpa using hj)] at h
      have := List.mem_of_getElem? h
      have := (List.mem_replicate.mp this).2; cases this
    · rw [List.getElem?_append_right (by simpa using hj)] at h
      simp only [List.length_replicate] at h
      cases q : i - bs.length - k with
      | zero => rw [q] at h; simp at h; exact ⟨by omega, h.symm⟩
      | succ j => rw [q] at h; simp at h
theorem FnA.introC {g : GI} {n : Nat} {fa : Addr} {bs : List B} {r : Res} {names loc : List Str} {y : Str} {name qual : Str} {params : Arguments} {body : List Stmt} {scope : Scope} {dV kV doc pm cdv ct oc : Value} {an od : Option Addr} {osl : Array (Option Value)}
    (ho : g.K.lookup fa = some ⟨oc, od, .func (fnOf name qual params body scope dV kV doc pm an cdv ct), osl⟩) (hcd : codeIn g.K cdv qual = true)
    (hbind : ∀ (vs : List Value), vs.length = bs.length → bindArgs (fnOf name qual params body scope dV kV doc pm an cdv ct) ⟨vs, []⟩ = pure (names.zip vs))
    (hn : (names ++ loc ++ [y]).Nodup) (hlen : names.length = bs.length) (hloc : ∀ z ∈ names ++ loc, scope.names.lookup z = some .local) (hcel : scope.names.lookup y = some .cell) (hdb : ∀ x ∈ names ++ loc ++ [y], (x == ("__debug__" : Str)) = false)
    (hcells : ∀ k, ∃ c, (cellsFrom k scope.names []).lookup y = some c)
    (hb : ∀ f : Fm, FmOk g f n → f.env.scope = scope → f.xs = names ++ loc → f.ys = [y] → (∃ c, f.env.cells.lookup y = some c) → Ex g f (ceEn loc.length bs) body (RetO r))
    (hco : scope.isCoroutine = false := by rfl) (hgen : scope.isGenerator = false := by rfl) (hk : scope.kind = .function := by rfl) :
    FnA g (n + 1) (.ref fa) bs r := by
  intro A l Y vs s R ok hA hh room cs hY hYex hY0 hr q ex
  obtain ⟨hvl, hr⟩ := hr
  have X : g.K.In s.heap := ok.X.keeps cs.keep
  have hL : s.heap.get? s.heap.objs.size = none := none_of_ge (Nat.le_refl _)
  have h00 : ∀ {a}, s.heap.get? a = none → g.H0.get? a = none := fun {a} e => by
    cases z : g.H0.get? a with
    | none => rfl
    | some o => rw [cs.keep a o z] at e; cases e
  have hnn : names.Nodup := (List.nodup_append.mp (List.nodup_append.mp hn).1).1
  have hln : ∀ z ∈ names, scope.names.lookup z = some .local := fun z hz => hloc z (List.mem_append_left _ hz)
  refine codeAny_call_cells (fd := fnOf name qual params body scope dV kV doc pm an cdv ct) (body := body) (binds := names.zip vs) (by have := room.1; omega) (X _ _ ho) rfl
    (ok.T.nolimit.keeps cs.keep) (codeRec_of X hcd) rfl (hbind vs hvl) rfl (fun z hz => .inl (hln _ (List.of_mem_zip (a := z.1) (b := z.2) hz).1)) (fun s₁ C => ?_) hco hgen hk
  obtain ⟨h₁, tk₁, rfl, hk₁⟩ := C.done
  generalize hce : callEnvC (fnOf name qual params body scope dV kV doc pm an cdv ct) s.heap.objs.size fa = env at *
  have es : env.scope = scope := by rw [← hce]; rfl
  have eL : env.locals = s.heap.objs.size := by rw [← hce]; rfl
  have ec : env.cells = cellsFrom (s.heap.objs.size + 1) scope.names [] := by rw [← hce]; rfl
  have ek : ∀ z, env.kindOf z = scope.names.lookup z := fun z => by rw [← hce]; rfl
  have ef : env.frame = some s.heap.objs.size := by rw [← hce]; rfl
  have eg : env.globals = mainGlobals := by rw [← hce]; rfl
  have eb : env.builtins = builtinsNs := by rw [← hce]; rfl
  have hln' : ∀ z ∈ names, env.kindOf z = some .local := fun z hz => (ek z).trans (hln z hz)
  obtain ⟨c, hc⟩ := hcells (s.heap.objs.size + 1)
  have hcc : env.cells.lookup y = some c := by rw [ec]; exact hc
  have cell : h₁.IsCell c none := by
    have := C.cell y c hcc
    rw [bindC_zip hln'] at this
    exact this
  have hcL : s.heap.objs.size < c := by have := C.above y c (mem_of_lookup hcc); rwa [eL] at this
  have nC : s.heap.get? c = none := none_of_ge (Nat.le_of_lt hcL)
  let f : Fm := ⟨env, A.deeper env, env :: l, l, s.heap, names ++ loc, [y]⟩
  have fL : f.L = s.heap.objs.size := eL
  have fok : FmOk g f n := {
    G := ok
    fr := Around.frames_deeper hA
    hd := hh
    room := ⟨by show A.depth + 1 + 3 * n < recursionLimit; have := room.1; omega, by show A.units + 3 + 8 * n < cLine; have := room.2; omega⟩
    kind := by show env.scope.kind = _; rw [es]; exact hk
    eG := eg
    eB := eb
    stk := fun h ⟨o, e, hd⟩ ff => ⟨by rw [es, hk]; decide, ⟨_, o, ef, h00 hL, by rw [← fL]; exact e, hd⟩, ff⟩
    sub := fun b hb => by
      have : fsOf (env :: l) = s.heap.objs.size :: fsOf l := by unfold fsOf; rw [List.filterMap_cons, ef]
      rw [show f.stack = env :: l from rfl, this] at hb
      rw [Fm.fs_eq, fL]; exact hb
    big := by rw [fL]; exact ok.big X
    newL := by rw [fL]; exact hL
    newL0 := by rw [fL]; exact h00 hL
    nodup := hn
    loc := fun z hz => (ek z).trans (hloc z hz)
    cel := fun z hz => by have : z = y := by simpa [f] using hz
                          rw [this]; exact (ek y).trans hcel
    ndb := hdb
    csE := cs }
  have own0 : ∀ {i}, Own (ceEn loc.length bs) i → i = bs.length + loc.length := fun {i} ⟨b, hb, ho⟩ => by
    rcases ceEn_get hb with hb' | ⟨e, _⟩
    · have hi := (List.getElem?_eq_some_iff.mp hb').1
      obtain ⟨v, hv⟩ : ∃ v, vs[i]? = some v := ⟨_, List.getElem?_eq_getElem (by omega)⟩
      rw [(hr i b v hb' hv).owns] at ho; cases ho
    · exact e
  have S : St g f ⟨Y, fun _ => c⟩ (ceEn loc.length bs) h₁ := by
    have hX : ∀ b, XOf f ⟨Y, fun _ => c⟩ (ceEn loc.length bs) b → Y b ∨ s.heap.get? b = none := fun b hb => by
      rcases hb with hb | hb | ⟨i, hi, hb⟩
      · exact .inl hb
      · right; rw [hb, fL]; exact hL
      · right; rw [hb]; exact nC
    have ns := C.toInCall.ns
    rw [← hce] at ns
    have ns' : h₁.Ns f.L (bindL env.kindOf (names.zip vs) fun _ => none) := by
      have := C.toInCall.ns
      exact this
    refine ⟨⟨_, ns', ?_⟩, cs.mono (fs := []) (fun b hb => nomatch hb) (Kf.of_keeps hk₁), Kf.of_keeps hk₁, fun i j hi hj _ => (own0 hi).trans (own0 hj).symm, fun i hi => ⟨nC, by rw [fL]; exact Nat.ne_of_gt hcL, h00 nC⟩, by simp [ceEn, f, hlen]; omega, hY, fun b hb => let ⟨o, e⟩ := hYex b hb; ⟨o, hk₁ b o e⟩,
      (fun i hi m => by obtain ⟨o, e⟩ := hYex c m; rw [nC] at e; cases e), hY0⟩
    intro i x b hx hb
    rcases ceEn_get hb with hb' | ⟨rfl, rfl⟩
    · have hi : i < names.length := by have := (List.getElem?_eq_some_iff.mp hb').1; omega
      have hx' : names[i]? = some x := by
        rw [← hx]; show _ = (names ++ loc ++ [y])[i]?
        rw [List.append_assoc]; exact (List.getElem?_append_left hi).symm
      obtain ⟨v, hv⟩ : ∃ v, vs[i]? = some v := ⟨_, List.getElem?_eq_getElem (by omega)⟩
      exact ArgOk.var (f := f) (Y := Y) (hr i b v hb' hv) hk₁ hX ((bindL_zip hln').2 hnn i x v hx' hv)
    · have : x = y := by
        have e : (names ++ loc ++ [y])[bs.length + loc.length]? = some y := by
          rw [List.getElem?_append_right (by simp [hlen]), ← hlen]; simp
        have : some x = some y := hx.symm.trans e
        injection this
      subst this
      exact ⟨hcc, cell⟩
  refine hb f fok es rfl rfl ⟨c, hcc⟩ _ _ _ _ S (fun fl o h' tk ho hok => ?_) (fun cv ρ' e h' tk ho hx => ?_)
  · cases r with
    | exc c => obtain ⟨ρ', rfl⟩ := ho; exact hok.elim
    | ok d =>
      rcases ho with rfl | ⟨rfl, ρ', rfl⟩
      · obtain ⟨v, rfl, c, k, rep⟩ := hok
        exact q v d h' tk rfl k rep
      · obtain ⟨rfl, σ, S', _⟩ := hok
        exact q .none .none h' tk rfl S'.kE (by simp only [Rep])
  · cases r with
    | ok d =>
      rcases ho with ho | ⟨_, _, ho⟩ <;> cases ho
    | exc c' =>
      obtain ⟨ρ'', ho⟩ := ho
      injection ho with e1 e2; subst e1 e2
      exact leave_exc (s' := { heap := h', gens := s.gens, drawn := s.drawn, toks := tk, os := s.os }) fok rfl (ef.trans (congrArg some fL.symm)) hx fun h'' a0 k fl => ex cv e a0 h'' tk rfl k fl
mutual
def KRep (K : Frag) : V → Value → Prop
  | .int i, v => ∃ t, v = .int i t
  | .tup ds, v => ∃ a vs n, v = .ref a ∧ K.lookup a = some (tobj vs n) ∧ KRepL K ds vs ∧ vs.length ≤ sizeLine
  | _, _ => False
def KRepL (K : Frag) : List V → List Value → Prop
  | [], vs => vs = []
  | d :: ds, vs => ∃ v r, vs = v :: r ∧ KRep K d v ∧ KRepL K ds r
end
mutual
theorem KRep.rep {K : Frag} {C : Addr} {h H0 : Heap} {X : Addr → Prop} (hK : K.In H0) (hk : ∀ b o, H0.get? b = some o → h.get? b = some o) (hX : ∀ b, X b → H0.get? b = none) : ∀ {d : V} {v : Value}, KRep K d v → Rep C h X d v
  | .int _, _, r => by simpa [KRep, Rep] using r
  | .tup ds, _, r => by
    simp only [KRep] at r
    simp only [Rep]
    obtain ⟨a, vs, n, e1, e2, e3, e4⟩ := r
    have e5 := hK a _ e2
    exact ⟨a, vs, n, e1, ⟨hk _ _ e5, fun m => by rw [hX a m] at e5; cases e5⟩, KRepL.rep hK hk hX e3, e4⟩
  | .none, _, r => by simp [KRep] at r
  | .bool _, _, r => by simp [KRep] at r
  | .bytes _, _, r => by simp [KRep] at r
  | .list _, _, r => by simp [KRep] at r
  | .name _, _, r => by simp [KRep] at r
  | .scr _, _, r => by simp [KRep] at r
theorem KRepL.rep {K : Frag} {C : Addr} {h H0 : Heap} {X : Addr → Prop} (hK : K.In H0) (hk : ∀ b o, H0.get? b = some o → h.get? b = some o) (hX : ∀ b, X b → H0.get? b = none) : ∀ {ds : List V} {vs : List Value}, KRepL K ds vs → RepL C h X ds vs
  | [], _, r => by simpa [KRepL, RepL] using r
  | d :: ds, _, r => by
    simp only [KRepL] at r
    simp only [RepL]
    obtain ⟨v, t, e, r1, r2⟩ := r
    exact ⟨v, t, e, KRep.rep hK hk hX r1, KRepL.rep hK hk hX r2⟩
end
theorem Ev.glob {g : GI} {f : Fm} {n : Nat} {ρ : En} {x : Str} {pos : Pos} {d : V} {v : Value} (ok : FmOk g f n) (hx : f.env.kindOf x = some .globalImplicit) (gv : GV g x v) (hr : KRep g.K d v) : Ev g f ρ (.Name x pos) (.ok d) := fun σ s Q E S q _ =>
  gv f n pos s _ _ ok hx S.cs (q v d s.heap s.toks rfl (Kf.refl _ _) (hr.rep ok.G.X S.cs.keep fun b hb => S.X0 ok hb))
section
variable {prog : Program} {w : World} {A : Around} {E : Value → Shared → Prop} {s : Shared}
theorem bt_loop {R : Result → Shared → Prop} {I S : Addr} {fp : List Addr} {ns : List Int} {P : Nat → Value → Prop} {Stt : Nat → Heap → Prop} (W : Walks prog w A.in1 I fp [I] ns.length P Stt)
    (hP : ∀ i v, P i v → ∃ k t, v = .int k t ∧ ns[i]? = some k) (hr : ∀ n ∈ ns, 0 ≤ n ∧ n < 256) (hz : ns.length ≤ sizeLine) (hIS : I ≠ S) (hS : S ∉ fp) :
    ∀ (k i : Nat) (s : Shared), ns.length - i = k → i ≤ ns.length → Stt i s.heap → s.heap.get? S = some { cls := .type "bytearray", data := .bytearray (byteArr (ns.take i)) } →
      (∀ h' t k', (∀ b o, b ≠ I → b ≠ S → s.heap.get? b = some o → h'.get? b = some o) → R (.ok (.ret (.bytes (byteArr ns) t))) { s with heap := h', toks := k' }) →
      codeAny (model prog w) A (.builtin "bytes.__new__.loop" ⟨[.type "bytes", .ref I, .ref S], []⟩) R s := by
  intro k
  induction k with
  | zero =>
    intro i s hk hle st hb hR
    have hin : i = ns.length := by omega
    subst hin
    refine codeAny_builtin F.bm_entry_loop ?_
    rw [Around.under_plainId F.bm_plain_loop _]
    show wpAny _ A.in1 (pyNext (.ref I) >>= _) _ _ s
    refine wpAny_bind (W.done s _ _ st fun h' tk' he => ?_)
    have hb' : h'.get? S = some { cls := .type "bytearray", data := .bytearray (byteArr (ns.take ns.length)) } := he S _ (by simpa using Ne.symm hIS) hb
    refine wpAny_bind ?_
    unfold Builtin.Bytes.payload Builtin.Bytes.payload?
    refine wpAny_bind (wpAny_bind (wpAny_load (s := { s with heap := h', toks := tk' }) hb' ?_))
    refine wpAny_pure (wpAny_pure ?_)
    rw [List.take_length]
    refine wpAny_bind (wpAny_mkBytes ?_ (by rw [byteArr_size]; exact hz))
    show wpAny _ _ (if (Value.type "bytes" == Value.type "bytes") = true then _ else _) _ _ _
    refine bm_if_true (by decide) ?_
    first
      | exact wpAny_pure (hR h' _ _ fun b o hb _ e => he b o (by simpa using hb) e)
      | exact wpAny_bind (wpAny_pure (wpAny_pure (hR h' _ _ fun b o hb _ e => he b o (by simpa using hb) e)))
  | succ k ih =>
    intro i s hk hle st hb hR
    have hlt : i < ns.length := by omega
    refine codeAny_builtin F.bm_entry_loop ?_
    rw [Around.under_plainId F.bm_plain_loop _]
    show wpAny _ A.in1 (pyNext (.ref I) >>= _) _ _ s
    refine wpAny_bind (W.item i s _ _ hlt st fun v h' tk' hPv st' he => ?_)
    obtain ⟨n, t, rfl, hn⟩ := hP i v hPv
    obtain ⟨h0, h1⟩ := hr n (List.mem_of_getElem? hn)
    have hb' : h'.get? S = some { cls := .type "bytearray", data := .bytearray (byteArr (ns.take i)) } := he S _ (by simpa using Ne.symm hIS) hb
    refine wpAny_bind (wpAny_holding (wpAny_of_eq (rfl : asIndex (.int n t) = pure n) ?_))
    refine wpAny_bind (wpAny_letGo ?_)
    refine bm_if_false (by simp only [Bool.or_eq_false_iff, decide_eq_false_iff_not]; omega) ?_
    refine wpAny_bind ?_
    show wpAny _ _ (updateBytearray S (·.push n.toNat.toUInt8)) _ _ _
    unfold updateBytearray
    refine wpAny_bind (wpAny_load (s := { s with heap := h', toks := tk' }) hb' ?_)
    show wpAny _ _ (update S (Obj.mapBytearray (·.push n.toNat.toUInt8)) >>= fun _ => lookBehind S) _ _ _
    refine wpAny_bind (wpAny_update (s := { s with heap := h', toks := tk' }) hb' ?_)
    have hb₂ : (h'.update S (Obj.mapBytearray (·.push n.toNat.toUInt8))).get? S = some { cls := .type "bytearray", data := .bytearray (byteArr (ns.take (i + 1))) } := by
      rw [byteArr_take hn]
      exact Heap.get?_update_self (Obj.mapBytearray (·.push n.toNat.toUInt8)) hb' rfl
    refine wpAny_lookBehind (s := { s with heap := h'.update S (Obj.mapBytearray (·.push n.toNat.toUInt8)), toks := tk' }) hb₂ ?_ ?_
    · show (if (byteArr (ns.take (i + 1))).size > sizeLine then some "bytearray:memory" else none) = none
      rw [if_neg]
      rw [byteArr_size, List.length_take]
      omega
    · refine wpAny_pure ⟨plainId_quiet F.bm_plain_loop _, ih (i + 1) { s with heap := h'.update S (Obj.mapBytearray (·.push n.toNat.toUInt8)), toks := tk' } (by omega) hlt ?_ hb₂ fun h3 t' k' hk3 => ?_⟩
      · exact W.frame _ _ _ st' fun b hb o e => (Heap.get?_update_other _ _ (fun z : S = b => hS (by rw [z]; exact hb))).trans e
      · exact hR h3 t' k' fun b o hbI hbS e => hk3 b o hbI hbS ((Heap.get?_update_other _ _ (Ne.symm hbS)).trans (he b o (by simpa using hbI) e))
end
theorem bt_no_bytes : typeLookup (.type "tuple") "__bytes__" = pure none := by rw [typeLookup_type, builtinLookup_eq_fast]; kernel_rfl
theorem bt_no_index : typeLookup (.type "tuple") "__index__" = pure none := by rw [typeLookup_type, builtinLookup_eq_fast]; kernel_rfl
theorem bt_no_buffer : typeLookup (.type "tuple") "__buffer__" = pure none := by rw [typeLookup_type, builtinLookup_eq_fast]; kernel_rfl
theorem bt_split : splitId "tuple.__len__" = some ("tuple", "__len__") := by decide +kernel
theorem bt_sub : isSubtype (.type "tuple") (.type "tuple") = pure true := by rw [isSubtype_type]; kernel_rfl
section
variable {prog : Program} {w : World} {A : Around} {E : Value → Shared → Prop} {s : Shared}
theorem bt_new {l : Addr} {vs : List Value} {ns : List Int} {Q : Value → Shared → Prop} (hh : A.handled = none) (hl : s.heap.IsTuple l vs.toArray) (hi : IntsAre vs ns) (hr : ∀ n ∈ ns, 0 ≤ n ∧ n < 256) (hz : ns.length ≤ sizeLine)
    (hQ : ∀ h' t k, (∀ b o, s.heap.get? b = some o → h'.get? b = some o) → Q (.bytes (byteArr ns) t) { s with heap := h', toks := k }) :
    codeAny (model prog w) A (.call (.builtin "bytes.__new__") ⟨[.type "bytes", .ref l], []⟩) (wants Q E) s := by
  have hlen : vs.length = ns.length := hi.length
  refine codeAny_of_tree ?_
  show wpAny _ A.in1 (do checkBuiltinCall "bytes.__new__" ⟨[.type "bytes", .ref l], []⟩; again (.builtin "bytes.__new__" ⟨[.type "bytes", .ref l], []⟩)) _ _ s
  refine wpAny_bind (wpAny_of_eq (F.bm_newCall _) (wpAny_pure ⟨plainId_quiet F.bm_plain _, codeAny_builtin F.bm_entry ?_⟩))
  rw [Around.under_plainId F.bm_plain _]
  obtain ⟨ol, hol, hoc, nl, hod⟩ := id hl
  have hT : s.TypeIs (.ref l) "tuple" := ⟨ol, hol, hoc⟩
  have hI0 : s.heap.get? s.heap.objs.size = none := none_of_ge (Nat.le_refl _)
  have hne : l ≠ s.heap.objs.size := fun z => by rw [← z, hol] at hI0; cases hI0
  unfold Builtin.«bytes.__new__»
  refine wpAny_bind (wpAny_of_eq (a := true) rfl ?_)
  refine bm_if_false rfl ?_
  refine wpAny_bind (wpAny_of_eq F.bm_sub ?_)
  refine bm_if_false rfl ?_
  refine wpAny_bind (wpAny_of_eq (F.bm_bind _) ?_)
  refine wpAny_bind (wpAny_of_eq (a := ()) rfl ?_)
  refine wpAny_bind (wpAny_of_eq (a := ()) rfl ?_)
  refine bm_if_false rfl ?_
  refine wpAny_bind (wpAny_specialOf hT bt_no_bytes ?_)
  refine wpAny_bind (wpAny_bind ?_)
  show wpAny _ _ (load l >>= _) _ _ _
  refine wpAny_bind (wpAny_load hol ?_)
  rw [hod]
  refine wpAny_pure (wpAny_pure ?_)
  refine bm_if_false rfl ?_
  refine wpAny_bind (wpAny_specialOf hT bt_no_index ?_)
  refine bm_if_true rfl ?_
  first
    | show wpAny _ _ (Builtin.Bytes.buffer? "bytes.__new__" (.ref l) true >>= _) _ _ _
    | (refine wpAny_bind ?_; show wpAny _ _ (Builtin.Bytes.buffer? "bytes.__new__" (.ref l) true >>= _) _ _ _)
  refine wpAny_bind ?_
  unfold Builtin.Bytes.buffer?
  refine wpAny_bind (wpAny_specialOf hT bt_no_buffer ?_)
  refine wpAny_bind (wpAny_specialOf hT bt_no_buffer ?_)
  refine wpAny_pure ?_
  refine wpAny_bind (wpAny_tryCatch (wpAny_pyIter_tuple hl ?_))
  have W := Walks.tuple (prog := prog) (w := w) (A := A.in1) hh s.heap.objs.size l hne vs.toArray
  have hsz0 : vs.toArray.size = ns.length := by simp [hlen]
  rw [hsz0] at W
  generalize hx : s.heap.push _ = h1
  have hk1 : ∀ b o, s.heap.get? b = some o → h1.get? b = some o := fun b o e => by rw [← hx]; exact Heap.get?_push_of_some _ e
  have hl₁ : h1.IsTuple l vs.toArray := ⟨ol, hk1 _ _ hol, hoc, nl, hod⟩
  have hT₁ : ({ s with heap := h1 } : Shared).TypeIs (.ref l) "tuple" := ⟨ol, hk1 _ _ hol, hoc⟩
  refine wpAny_bind (wpAny_holding ?_)
  unfold Builtin.Bytes.lengthHint
  refine wpAny_bind (wpAny_specialOf hT₁ PySem.F.slot_tuple_len.lookup ?_)
  dsimp only
  rw [bt_split]
  dsimp only
  refine wpAny_bind (wpAny_isInstance hT₁ bt_sub ?_)
  refine bm_if_false rfl ?_
  refine bm_if_true (by decide +kernel) ?_
  refine wpAny_pure ?_
  refine wpAny_bind ?_
  unfold Builtin.Bytes.newBytearray
  refine wpAny_newObj_type ?_ (Nat.zero_le _)
  have hlt : l < s.heap.objs.size := Heap.lt_size hol
  have hsz : h1.objs.size = s.heap.objs.size + 1 := by rw [← hx]; exact Heap.size_push _ _
  refine (fun main => ?_) (bt_loop (prog := prog) (w := w) (A := A) (R := wants Q E) (I := s.heap.objs.size) (S := h1.objs.size) W (fun i v hP => ?a) hr hz (by rw [hsz]; exact Nat.ne_of_lt (Nat.lt_succ_self _)) ?b
    ns.length 0 { s with heap := h1.push { cls := .type "bytearray", data := .bytearray #[] } } rfl (Nat.zero_le _) ?c (Heap.get?_push_size _ rfl)
    fun h' t k hk => hQ h' t k fun b o e => hk b o (Nat.ne_of_lt (Heap.lt_size e)) (by rw [hsz]; exact Nat.ne_of_lt (Nat.lt_succ_of_lt (Heap.lt_size e))) (Heap.get?_push_of_some _ (hk1 _ _ e)))
  · first
    | exact wpAny_pure ⟨plainId_quiet F.bm_plain_loop _, main⟩
    | exact wpAny_pure (wpAny_pure ⟨plainId_quiet F.bm_plain_loop _, main⟩)
  case a =>
    have hP' : vs[i]? = some v := by simpa using hP
    obtain ⟨n, t, rfl, hn⟩ := IntsAre.at hi i v hP'
    exact ⟨n, t, rfl, hn⟩
  case b =>
    intro m
    simp at m
    have q1 : s.heap.objs.size < h1.objs.size := by rw [hsz]; exact Nat.lt_succ_self _
    rcases m with m | m
    · exact Nat.lt_irrefl _ (m ▸ q1)
    · exact Nat.lt_irrefl _ (Nat.lt_trans (m ▸ q1) hlt)
  case c =>
    exact ⟨⟨_, Heap.get?_push_of_some _ (by rw [← hx]; exact Heap.get?_push_size _ rfl), rfl, rfl⟩, ⟨_, Heap.get?_push_of_some _ (hk1 _ _ hol), hoc, nl, hod⟩⟩
theorem call_bytes_tup {l : Addr} {vs : List Value} {ns : List Int} {Q : Value → Shared → Prop} (hl : s.heap.IsTuple l vs.toArray) (hi : IntsAre vs ns) (hr : ∀ n ∈ ns, 0 ≤ n ∧ n < 256) (hz : vs.length ≤ sizeLine) (hh : A.handled = none)
    (hQ : ∀ h' t k, (∀ b o, s.heap.get? b = some o → h'.get? b = some o) → Q (.bytes (byteArr ns) t) { s with heap := h', toks := k }) : wpAny (model prog w) A (call (.type "bytes") [.ref l]) Q E s := by
  refine callType_codes (Q₁ := fun obj s₁ => s₁.TypeIs obj "bytes" ∧ Q obj s₁) F.bm_called (F.bm_typeCall _) F.entry_object_init
    (bt_new hh hl hi hr (by rw [← hi.length]; exact hz) fun h' t k hk => ⟨PySem.W.typeIs_bytes _ _ _, hQ h' t k hk⟩) fun obj s₁ h₁ => ?_
  exact ⟨h₁.1, F.args_object_init_2 obj _, object_init_meets F.bm_called.init.lookup F.bm_called.made (by decide) prog w A.in1 _ s₁ ⟨h₁.1, rfl, h₁.2⟩⟩
end
section
variable {g : GI} {n : Nat}
theorem Bi.bytesT {ns : List Int} (hn : ∀ k ∈ ns, 0 ≤ k ∧ k < 256) : Bi g n (.type "bytes") [.tup (ns.map .int)] (.ok (.bytes (bytesOf ns))) := fun f ρ σ s Q E vs ok S hr q ex => by
  simp only [RepL, Rep] at hr
  obtain ⟨v, r, rfl, ⟨a, us, m, rfl, ha, rl, hl⟩, rfl⟩ := hr
  refine call_bytes_tup (vs := us) ⟨_, ha.1, rfl, m, rfl⟩ (ints_of rl) hn hl ok.hd fun h' t k hk => ?_
  refine q _ _ h' k rfl (Kf.of_keeps hk) ?_
  have e : us.length = ns.length := by rw [RepL.length rl]; simp
  simp only [Rep]
  exact ⟨⟨t, rfl⟩, by unfold bytesOf; rw [List.length_map, ← e]; exact hl⟩
end
section
variable {prog : Program} {w : World} {A : Around} {E : Value → Shared → Prop} {s : Shared} {K : Frag} {C : Addr}
theorem exm_self {M : Model} {h : Heap} (X : K.In h) (hc : exmOne K (.ref C) (.ref C) = some true) : Looks M h (typeOf (.ref C)) (.type "type") ∧ Looks M h (isType (.ref C)) true ∧ Looks M h (isSubtype (.ref C) (.ref C)) true := by
  unfold exmOne at hc
  split at hc
  · exact kit_cls X hc
  · cases hc
theorem sub_nested {k : Value} {dep : Int} {tk : Tok} {Q : Fin → Shared → Prop} (X : K.In s.heap) (hc : exmOne K (.ref C) (.ref C) = some true) (hk : k = .int dep tk) (hq : Q (.done (.ret (.bool true))) s) :
    wpAny (model prog w) A (Builtin.«issubclass.nested» ⟨[.ref C, .ref C, k], []⟩) Q E s := by
  subst hk
  obtain ⟨L1, L2, L3⟩ := exm_self (M := model prog w) X hc
  obtain ⟨h, g, d, tk, os⟩ := s
  repeat (any_goals (first | assumption | with_reducible exact L1.here ‹_› | lk | wp_step))
theorem sub_self (hc : exmOne K (.ref C) (.ref C) = some true) : Meets (Builtin.«issubclass» ⟨[.ref C, .ref C], []⟩) (fun _ R s => K.In s.heap ∧ R (.ok (.ret (.bool true))) s) :=
  fun _ _ _ _ _ hs => issubclass_outer (sub_nested hs.1 hc rfl hs.2)
theorem raise_own {env : Env} {x : Str} {np pos : Pos} {Q : Flow → Shared → Prop} {p : Program} {loose : List Str} {mg mb : Str → Option Value} {h₀ : Heap} {B newId initId : String} {bmB : List Value} (hh : A.handled = none) (X : K.In s.heap) (X0 : K.In h₀) (T : TopRead p loose mg mb h₀)
    (hk0 : ∀ b o, h₀.get? b = some o → s.heap.get? b = some o)
    (ex : nsIn K mainGlobals x = some (some (.ref C))) (q : excIn K C bmB newId = true) (hc : exmOne K (.ref C) (.ref C) = some true) (hb : subIn K (.ref C) (.type "BaseException") = some true) (F : ExcBaseFacts B newId initId bmB)
    (hx : ∀ (Q' : Value → Shared → Prop), Q' (.ref C) s → wpAny (model prog w) A (eval (.Name x np) env) Q' E s)
    (h : ∀ h' e, Heap.MadeExcOf s.heap h' e (.ref C) [] → E (.ref e) { s with heap := h' }) :
    wpAny (model prog w) A (exec (.Raise (some (.Name x np)) none pos) env) Q E s := by
  show wpAny (model prog w) A (do standAt pos; raiseStmt env (some (do let v ← eval (.Name x np) env; standAt pos; pure v)) none) Q E s
  refine wpAny_bind (wpAny_standAt ?_)
  unfold raiseStmt
  dsimp only
  refine wpAny_bind (wpAny_bind (hx _ (wpAny_bind (wpAny_standAt (wpAny_pure ?_)))))
  refine wpAny_bind (wpAny_pure ?_)
  dsimp only
  refine wpAny_bind (wpAny_holding ?_)
  obtain ⟨L1, _⟩ := exm_cls (M := model prog w) X hc
  unfold excFromValue
  refine wpAny_bind (L1.here ?_)
  rw [if_pos rfl]
  obtain ⟨tl, N, nm, qq, bs, hdct, sn, sub, ab, col, dd, k0, k1, k2, k3, k5, mN, hC, hN, hni, TT⟩ := ((own_of_in X0 T ex q).keeps hk0).obj
  obtain ⟨hp, gg, dd', tk, os⟩ := s
  refine wpAny_bind (wpAny_call_exc_subT F TT hC hN hni (fun h' e hm => ?_) (Nat.zero_le _))
  obtain ⟨t, ht, hnt, htt⟩ := hm.there
  have X' : K.In h' := X.keeps hm.keeps
  have LTe : Looks (model prog w) h' (typeOf (.ref e)) (.ref C) := (Looks.ld ht).andThen .now
  have LI : Looks (model prog w) h' (isInstance (.ref e) (.type "BaseException")) true := LTe.andThen (looks_subIn X' hb)
  refine wpAny_bind (LI.at ?_)
  simp only [Bool.not_true, Bool.false_eq_true, if_false]
  refine wpAny_pure ?_
  obtain ⟨_, LT, _⟩ := exm_self (M := model prog w) X' hc
  refine wpAny_bind (LT.at ?_)
  rw [if_pos rfl]
  refine wpAny_bind (wpAny_holding ?_)
  unfold raisedFor
  simp only [Bool.false_eq_true, if_false]
  refine wpAny_bind (LTe.at ?_)
  refine wpAny_bind (call_issubclass (sub_self hc) ⟨X', ?_⟩)
  dsimp only [wants]
  refine wpAny_bind (wpAny_truthy_bool ?_)
  rw [if_pos rfl]
  refine wpAny_pure ?_
  unfold setFlight raiseNew
  refine wpAny_bind (wpAny_bind (wpAny_field (i := 1) (x := Value.none) ht rfl rfl ?_))
  rw [if_neg (by decide)]
  refine wpAny_pure (wpAny_bind (wpAny_handled ?_))
  rw [hh]
  first
    | exact wpAny_throw (h h' e hm)
    | exact wpAny_bind (wpAny_pure (wpAny_throw (h h' e hm)))
end
structure ExcK (g : GI) (x : Str) (C : Addr) : Prop where
  ex : nsIn g.K mainGlobals x = some (some (.ref C))
  q : excIn g.K C [.type "Exception", .type "BaseException", .type "object"] "Exception.__new__" = true
  hc : exmOne g.K (.ref C) (.ref C) = some true
  hb : subIn g.K (.ref C) (.type "BaseException") = some true
section
variable {g : GI} {f : Fm} {n : Nat} {ρ : En}
theorem name_any {A : Around} {env : Env} {x : Str} {v : Value} {pos : Pos} {s : Shared} {Q : Value → Shared → Prop} {E : Value → Shared → Prop} (ok : g.Ok) (hk : env.scope.kind = .function) (eG : env.globals = mainGlobals) (eB : env.builtins = builtinsNs)
    (hx : env.kindOf x = some .globalImplicit) (hd : (x == ("__debug__" : Str)) = false) (hc : KtsName g.K x v) (keep : ∀ b o, g.H0.get? b = some o → s.heap.get? b = some o) (h : Q v s) : wpAny (model g.prog g.w) A (eval (.Name x pos) env) Q E s := by
  rcases hc with e | ⟨e, hv, hn⟩
  · exact Calls.Name_function_global hk hx (Calls.loadGlobal_global (env := env) (eG ▸ ok.T.g.keeps keep) (mg_of ok.X ok.T.g e) h) hd
  · exact Calls.Name_function_global hk hx (Calls.loadGlobal_builtin (env := env) (eG ▸ ok.T.g.keeps keep) (mg_none_of ok.X ok.T.g e) (eB ▸ ok.T.b.keeps keep) ((ok.T.builtins x hn).trans hv) h) hd
theorem Ex.raiseOwn {x : Str} {np pos : Pos} {C : Addr} {rest : List Stmt} {O : Out → Prop} (ok : FmOk g f n) (hx : f.env.kindOf x = some .globalImplicit) (hC : ExcK g x C) (h : O (.exc (.ref C) ρ)) (hd : (x == ("__debug__" : Str)) = false := by rfl) :
    Ex g f ρ (.Raise (some (.Name x np)) none pos :: rest) O := fun σ s Q E S q ex => by
  refine wpAny_execs_cons (raise_own (p := g.p) (loose := g.loose) (mg := g.mg) (mb := g.mb) (h₀ := g.H0) ok.hd (ok.G.X.keeps S.cs.keep) ok.G.X ok.G.T S.cs.keep hC.ex hC.q hC.hc hC.hb PySem.F.excBase_Exception (fun Q' hq => name_any ok.G ok.kind ok.eG ok.eB hx hd (.inl hC.ex) S.cs.keep hq) fun h' e hm => ?_)
  exact ex (.ref C) ρ e h' s.toks h ⟨σ, s.heap, S, Trn.refl .., .inr ⟨[], hm⟩⟩
theorem Ex.raiseVE {np cp kp pos : Pos} {str : Str} {kk : Nat} {rest : List Stmt} {O : Out → Prop} (ok : FmOk g f n) (hx : f.env.kindOf "ValueError" = some .globalImplicit) (gv : GV g "ValueError" (.type "ValueError")) (h : O (.exc (.type "ValueError") ρ))
    (hz : str.cps.size ≤ 1000 := by decide) :
    Ex g f ρ (.Raise (some (.Call (.Name "ValueError" np) [.Constant (.str str) kk kp] [] cp)) none pos :: rest) O := fun σ s Q E S q ex => by
  refine wpAny_execs_cons (Raise_madeB PySem.F.excCall_ValueError PySem.F.excRaise_ValueError ok.hd (gv f n np s _ _ ok hx S.cs ⟨rfl, ?_⟩))
  refine Calls.spliced_cons (wpAny_Constant_str (pos := kp) (k := kk) (Calls.spliced_nil ?_))
  refine ⟨Nat.le_of_ble_eq_true rfl, fun h' e hm => ?_⟩
  have hm' := hm.of
  exact ex _ ρ e h' _ h ⟨σ, s.heap, S, Trn.refl .., .inr ⟨_, hm'⟩⟩
inductive Catch (g : GI) (f : Fm) (c : Value) : List ExceptHandler → Int → Prop
  | hit {x : Str} {v : Value} {np cp rp p : Pos} {kk : Nat} {k : Int} {rest : List ExceptHandler} (hn : KtsName g.K x v) (hx : f.env.kindOf x = some .globalImplicit) (hd : (x == ("__debug__" : Str)) = false) (he : exmOne g.K c v = some true) :
      Catch g f c (.ExceptHandler (some (.Name x np)) none [.Return (some (.Constant (.int k) kk cp)) rp] p :: rest) k
  | skip {x : Str} {v : Value} {np p : Pos} {k : Int} {body : List Stmt} {rest : List ExceptHandler} (hn : KtsName g.K x v) (hx : f.env.kindOf x = some .globalImplicit) (hd : (x == ("__debug__" : Str)) = false) (he : exmOne g.K c v = some false) (h : Catch g f c rest k) :
      Catch g f c (.ExceptHandler (some (.Name x np)) none body p :: rest) k
theorem kf_fly {σ : Sp} {h₁ h' : Heap} {e : Addr} {c a0 : Value} (ok : FmOk g f n) (S : St g f σ ρ h₁) (fl : Heap.FlyingW (hideAll h₁ f.fs) f.stack e c a0 h') (up : h₁.UpToSlots h') : Kf f.fs h₁ h' := fun b o eb => by
  have xx : b ∉ f.fs → h'.get? b = some o := fun nb => fl.1 b o (hideAll_get _ eb nb)
  refine ⟨xx, ?_⟩
  by_cases hb : b ∈ f.fs
  · have nf : ∀ vs, o.data ≠ .fields vs := by
      rw [Fm.fs_eq] at hb
      rcases List.mem_cons.mp hb with rfl | hb
      · obtain ⟨m, ⟨oL, es, ep, hL, hd, _⟩, _⟩ := S.ex
        rw [eb] at hL; cases hL
        intro vs q; rw [hd] at q; cases q
      · obtain ⟨o', e', nf⟩ := (S.cs.ff.mem hb).2
        rw [eb] at e'; cases e'; exact nf
    exact up b o eb nf
  · exact ⟨o.slots, xx hb⟩
theorem catch_run {σ : Sp} {h₁ : Heap} {e : Addr} {c a0 : Value} {hs : List ExceptHandler} {k : Int} (ok : FmOk g f n) (S : St g f σ ρ h₁) (hc : Catch g f c hs k) :
    ∀ (s : Shared) (Q : Flow → Shared → Prop) (E : Value → Shared → Prop), Heap.FlyingW (hideAll h₁ f.fs) f.stack e c a0 s.heap → h₁.UpToSlots s.heap →
      (∀ h' t tk, Kf f.fs h₁ h' → Q (.ret (.int k t)) { s with heap := h', toks := tk }) → wpAny (model g.prog g.w) f.A (handleBy (.ref e) f.env hs) Q E s := by
  induction hc with
  | hit hn hx hd he =>
    intro s Q E fl up q
    have kf := kf_fly ok S fl up
    have keep : ∀ b o, g.H0.get? b = some o → s.heap.get? b = some o := (S.mono ok kf).cs.keep
    have X : g.K.In s.heap := ok.G.X.keeps keep
    have LT : Looks (model g.prog g.w) s.heap (typeOf (.ref e)) c := by
      obtain ⟨ob, hob, hcl⟩ := fl.there
      subst hcl
      exact (Looks.ld hob).andThen .now
    refine wpAny_handleBy_cons (codeAny_handlers_test (name_any ok.G ok.kind ok.eG ok.eB hx hd hn keep ((exm_one X LT he).here ?_))) (by intro q; cases q)
    refine codeAny_handlers_suite ?_
    refine lands_againW fl fun h₆ fl₆ up₆ => ?_
    refine wpAny_execs_cons (wpAny_Return_some (wpAny_Constant_int ?_))
    exact q h₆ _ _ (kf_fly ok S fl₆ (up.trans up₆))
  | skip hn hx hd he h ih =>
    intro s Q E fl up q
    have kf := kf_fly ok S fl up
    have keep : ∀ b o, g.H0.get? b = some o → s.heap.get? b = some o := (S.mono ok kf).cs.keep
    have X : g.K.In s.heap := ok.G.X.keeps keep
    have LT : Looks (model g.prog g.w) s.heap (typeOf (.ref e)) c := by
      obtain ⟨ob, hob, hcl⟩ := fl.there
      subst hcl
      exact (Looks.ld hob).andThen .now
    refine wpAny_handleBy_cons (codeAny_handlers_test (name_any ok.G ok.kind ok.eG ok.eB hx hd hn keep ((exm_one X LT he).here ?_))) (by intro q; cases q)
    exact ih s Q E fl up q
theorem note_made {base h : Heap} {A : Around} {env : Env} {outer : List Env} {L e : Addr} {cls : Value} {args : List Value} {s : Shared} {Q : Unit → Shared → Prop} {E : Value → Shared → Prop} {M : Model}
    (hfr : A.frames = some (env :: outer)) (hf : env.frame = some L) (hkb : base.StaysIn h) (hl : h.FunFrames base (env :: outer)) (hx : Heap.MadeExcOf h s.heap e cls args)
    (hQ : ∀ h' t, Heap.HeldW base (env :: outer) e cls (.ref t) L h' → s.heap.UpToSlots h' → Q () { s with heap := h' }) : wpAny M A (noteFrame (.ref e) env) Q E s := by
  obtain ⟨t, he, htn, ht⟩ := hx.there
  have fresh : ∀ b, h.get? b = none → base.get? b = none := fun b hb => by
    cases hq : base.get? b with
    | none => rfl
    | some o' => have := hkb b o' hq; rw [hb] at this; cases this
  unfold noteFrame
  simp only [hf]
  refine wpAny_bind (wpAny_field (i := 1) (x := Value.none) he rfl rfl ?_)
  rw [if_neg (by decide)]
  refine wpAny_entryW (a0 := .ref t) hfr (hl.of_keeps fun b o hb _ => ⟨o, hx.keeps b o hb, rfl⟩) hf he (fun b o hb => hx.keeps b o (hkb b o hb)) (fresh e hx.new) rfl (by simp) rfl fun h' hN => ?_
  obtain ⟨k1, k2, k3, k4⟩ := hN
  exact hQ h' t ⟨k1, fresh e hx.new, k2, k3⟩ k4
theorem Ex.try {body : List Stmt} {h0 : ExceptHandler} {hs : List ExceptHandler} {pos : Pos} {rest : List Stmt} {O₁ O : Out → Prop} (ok : FmOk g f n) (hst : f.stack = f.env :: f.outer) (hfr : f.env.frame = some f.L) (hb : Ex g f ρ body O₁)
    (hn : ∀ ρ', O₁ (.next ρ') → Ex g f ρ' rest O) (ho : ∀ o, O₁ o → (∀ ρ', o ≠ .next ρ') → (∀ c ρ', o ≠ .exc c ρ') → O o)
    (hc : ∀ c ρ', O₁ (.exc c ρ') → ∃ k, Catch g f c (h0 :: hs) k ∧ O (.ret (.int k))) : Ex g f ρ (.Try body (h0 :: hs) [] [] pos :: rest) O := by
  refine Ex.seq (O₁ := fun o => (O₁ o ∧ ∀ c ρ', o ≠ .exc c ρ') ∨ ((∃ k, o = .ret (.int k)) ∧ O o)) ?_ (fun ρ' h => ?_) (fun o h hnn => ?_)
  · intro σ s Q E S q ex
    have core : wpAny (model g.prog g.w) f.A (exec (.Try body (h0 :: hs) [] [] pos) f.env) Q E s := by
      refine wpAny_Try_except (hb σ s _ _ S (fun fl o h' tk o1 ok1 => ?_) (fun c ρ' e h' tk o1 x => ?_))
      · cases o with
        | next ρ' =>
          obtain ⟨rfl, z⟩ := ok1
          exact wpAny_execs_nil (q .next (.next ρ') h' tk (.inl ⟨o1, fun _ _ e => nomatch e⟩) ⟨rfl, z⟩)
        | brk ρ' => obtain ⟨rfl, z⟩ := ok1; exact q _ (.brk ρ') h' tk (.inl ⟨o1, fun _ _ e => nomatch e⟩) ⟨rfl, z⟩
        | cont ρ' => obtain ⟨rfl, z⟩ := ok1; exact q _ (.cont ρ') h' tk (.inl ⟨o1, fun _ _ e => nomatch e⟩) ⟨rfl, z⟩
        | ret d => obtain ⟨v, rfl, z⟩ := ok1; exact q _ (.ret d) h' tk (.inl ⟨o1, fun _ _ e => nomatch e⟩) ⟨v, rfl, z⟩
        | exc _ _ => exact ok1.elim
      · obtain ⟨k, hcat, hO⟩ := hc c ρ' o1
        obtain ⟨σ', h₁, S', T', hx⟩ := x
        have hff : h₁.FunFrames g.H0 f.stack := by
          obtain ⟨m, ⟨oL, es, ep, hL, hd, _⟩, _⟩ := S'.ex
          exact ok.stk h₁ ⟨oL, hL, fun vs q => by rw [hd] at q; cases q⟩ S'.cs.ff
        have fr' : f.A.frames = some (f.env :: f.outer) := hst ▸ ok.fr
        have fin : ∀ (h₅ : Heap) (a0 : Value), Heap.FlyingW (hideAll h₁ f.fs) f.stack e c a0 h₅ → h₁.UpToSlots h₅ → wpAny (model g.prog g.w) f.A (handleBy (.ref e) f.env (h0 :: hs)) Q E { s with heap := h₅, toks := tk } := fun h₅ a0 fl up =>
          catch_run ok S' hcat _ Q E fl up fun h'' t tk' kf => by
            have S'' := S'.mono ok kf
            refine q (.ret (.int k t)) (.ret (.int k)) h'' tk' (.inr ⟨⟨k, rfl⟩, hO⟩) ⟨.int k t, rfl, ?_⟩
            have := ret_ok (d := .int k) (v := .int k t) S'' (by simp only [Rep]; exact ⟨t, rfl⟩)
            rw [← T'.Y]; exact this
        rcases hx with ⟨k₁, a0, fl⟩ | ⟨args, mk⟩
        · refine wpAny_looks_onW fr' hfr (hst ▸ fl) fun h₄ held up₄ => ?_
          refine wpAny_landsW held fun h₅ fl₅ up₅ => ?_
          exact fin h₅ a0 (hst.symm ▸ fl₅) (k₁.up.trans (up₄.trans up₅))
        · have hin : ∀ env ∈ f.stack, ∀ b, env.frame = some b → b ∈ f.fs := fun env he b hb => ok.sub b (List.mem_filterMap.mpr ⟨env, he, hb⟩)
          have hff' := funFrames_hide hff hin
          rw [hst] at hff'
          refine note_made fr' hfr (fun b o q => of_hideAll _ q) hff' mk fun h₄ t held up₄ => ?_
          refine wpAny_landsW held fun h₅ fl₅ up₅ => ?_
          exact fin h₅ _ (hst.symm ▸ fl₅) ((Heap.UpToSlots.of_keeps mk.keeps).trans (up₄.trans up₅))
    exact wpAny_execs_cons (wpAny_mono core (fun fl s' z => by cases fl <;> first | exact wpAny_execs_nil z | exact z) fun _ _ z => z)
  · rcases h with ⟨h, _⟩ | ⟨⟨k, hk⟩, _⟩
    · exact hn ρ' h
    · cases hk
  · rcases h with ⟨h, h2⟩ | ⟨_, h⟩
    · exact ho o h hnn h2
    · exact h
end
section
variable {g : GI} {f : Fm} {n m : Nat} {ρ : En}
theorem room_in1 {A : Around} (h : Room A n) (hm : m < n) : Room A.in1 m := by
  have h1 := h.1; have h2 := h.2
  refine ⟨?_, ?_⟩
  · show A.depth + 3 * m < _; omega
  · show A.units + 1 + 8 * m < _; omega
theorem call_in1 {fv : Value} {σ : Sp} {ds : List V} {r : Res} {vs : List Value} {s : Shared} {Q : Value → Shared → Prop} {E : Value → Shared → Prop} (ok : FmOk g f n) (hm : m < n) (S : St g f σ ρ s.heap) (hr : RepL g.C s.heap (XOf f σ ρ) ds vs)
    (hf : Fn g m fv ds r)
    (q : ∀ v d h' tk, r = .ok d → Kf f.fs s.heap h' → Rep g.C h' (XOf f σ ρ) d v → Q v { s with heap := h', toks := tk })
    (ex : ∀ c e' h' tk, r = .exc c → Fly f s.heap h' e' c → E (.ref e') { s with heap := h', toks := tk }) :
    wpAny (model g.prog g.w) f.A.in1 (call fv vs) Q E s := by
  refine wpAny_call ?_
  exact hf f.A.in1 f.stack (XOf f σ ρ) vs s _ ok.G ok.fr ok.hd (room_in1 ok.room hm) (S.call ok) (fun b hb => S.fsX b (ok.sub b hb)) (fun b hb => S.Xex hb) (fun b hb => S.X0 ok hb) hr (fun v d h' tk e k rep => q v d h' tk e (k.mono ok.sub) rep) fun c e a0 h' tk er k fl => ex c e h' tk er (fly_of ok k fl)
theorem Bi.lenName {fa : Addr} {ls : List (List UInt8)} {k : Nat} (hm : m < n) (hs : findIn g.K (.ref g.C) "__len__" = some (some (.ref fa))) (hf : isFn g.K (.ref fa) = true) (hF : Fn g m (.ref fa) [.name ls] (.ok (.int k))) (hk : k < 2 ^ 63) :
    Bi g n (.builtin "len") [.name ls] (.ok (.int k)) := fun f ρ σ s Q E vs ok S hr q ex => by
  simp only [RepL] at hr
  obtain ⟨v, r, rfl, ra, rfl⟩ := hr
  obtain ⟨x, dx, t, h1, tk, nn, rfl, I, _⟩ := name_inst ra
  obtain ⟨H1, mm, hK, F⟩ := S.fr ok
  refine len_K F hK I hs hf ?_
  refine call_in1 ok hm S (by simp only [RepL]; exact ⟨_, _, rfl, ra, rfl⟩) hF (fun v d h' tk e kf rep => ?_) fun c e' h' tk ec => nomatch ec
  injection e with e; subst e
  simp only [Rep] at rep
  obtain ⟨tt, rfl⟩ := rep
  exact ⟨⟨by omega, by omega⟩, q _ _ h' _ rfl kf (by simp only [Rep]; exact ⟨_, rfl⟩)⟩
theorem Ev.subName {value slice : Expr} {pos : Pos} {fa : Addr} {ls : List (List UInt8)} {i : Int} {r : Res} (ok : FmOk g f n) (hm : m < n) (ho : Ev g f ρ value (.ok (.name ls))) (hi : Ev g f ρ slice (.ok (.int i)))
    (hs : findIn g.K (.ref g.C) "__getitem__" = some (some (.ref fa))) (hf : fnIn g.K fa = true) (hfn : isFn g.K (.ref fa) = true) (hF : Fn g m (.ref fa) [.name ls, .int i] r)
    (hsl : ∀ x i, subscripted slice true (.ref x) i = runValue (.builtin "lifetime.subscript" ⟨[.ref x, i], []⟩) := by intro _ _; with_unfolding_all rfl) : Ev g f ρ (.Subscript value slice pos) r := fun σ s Q E S q ex => by
  refine Subscript_ (ho σ s _ _ S (fun v d h₁ t₁ e k₁ r₁ => ?_) fun c e' h' tk ec => nomatch ec)
  injection e with e; subst e
  refine hi σ _ _ _ (S.mono ok k₁) (fun u d h₂ t₂ e k₂ r₂ => ?_) fun c e' h' tk ec => nomatch ec
  injection e with e; subst e
  have rv := rmono S r₁ k₂
  obtain ⟨x, dx, t, h1, tk, nn, rfl, I, _⟩ := name_inst rv
  have S₂ := S.mono ok (k₁.trans k₂)
  obtain ⟨H1, mm, hK, F⟩ := S₂.fr ok
  refine sub_K (s := { s with heap := h₂, toks := t₂ }) F hK I hs hf hfn ?_ (hsl x u)
  exact call_in1 (s := { s with heap := h₂, toks := t₂ }) ok hm S₂ (by simp only [RepL]; exact ⟨_, _, rfl, rv, _, _, rfl, r₂, rfl⟩) hF (fun v d h' tk e k r => q v d h' tk e ((k₁.trans k₂).trans k) r)
    fun c e' h' tk e fl => ex c e' h' tk e (fl.trans (k₁.trans k₂))
end
def KName (K : Frag) (C : Addr) (ls : List (List UInt8)) (v : Value) : Prop :=
  ∃ x dx hs tk t vs n m, v = .ref x ∧ K.lookup x = some (instObj C dx) ∧ K.lookup dx = some (dictOf [⟨hs, .str "labels" tk, .ref t⟩] m) ∧ K.lookup t = some (tobj vs n) ∧ vs.length ≤ sizeLine ∧
      (∀ b ∈ ls, b.length ≤ sizeLine) ∧ ∃ tks : List Tok, tks.length = ls.length ∧ vs = (ls.zip tks).map fun p => .bytes p.1.toArray p.2
theorem KName.rep {K : Frag} {C : Addr} {h H0 : Heap} {X : Addr → Prop} {ls : List (List UInt8)} {v : Value} (hK : K.In H0) (hk : ∀ b o, H0.get? b = some o → h.get? b = some o) (hX : ∀ b, X b → H0.get? b = none) (r : KName K C ls v) : Rep C h X (.name ls) v := by
  obtain ⟨x, dx, hs, tk, t, vs, n, m, e1, e2, e3, e4, e5, e6⟩ := r
  have at_ : ∀ {a : Addr} {o : Obj}, K.lookup a = some o → AtX h X a o := fun {a o} e => by
    have e5 := hK _ _ e
    exact ⟨hk _ _ e5, fun mm => by rw [hX _ mm] at e5; cases e5⟩
  simp only [Rep]
  exact ⟨x, dx, hs, tk, t, vs, n, m, e1, at_ e2, at_ e3, at_ e4, e5, e6⟩
theorem Ev.globName {g : GI} {f : Fm} {n : Nat} {ρ : En} {x : Str} {pos : Pos} {ls : List (List UInt8)} {v : Value} (ok : FmOk g f n) (hx : f.env.kindOf x = some .globalImplicit) (gv : GV g x v) (hr : KName g.K g.C ls v) : Ev g f ρ (.Name x pos) (.ok (.name ls)) := fun σ s Q E S q _ =>
  gv f n pos s _ _ ok hx S.cs (q v (.name ls) s.heap s.toks rfl (Kf.refl _ _) (hr.rep ok.G.X S.cs.keep fun b hb => S.X0 ok hb))
theorem bind1 {fd : FuncData} {a : Str} (h : ∀ v, bindArgs fd ⟨[v], []⟩ = pure [(a, v)]) : ∀ (vs : List Value) (s : Shared), vs.length = 1 → BindsTo s fd ⟨vs, []⟩ ([a].zip (vs ++ [])) := by
  intro vs s hv
  match vs, hv with
  | [v], _ => exact BindsTo.of_eq (h v)
theorem bind2 {fd : FuncData} {a b : Str} (h : ∀ v u, bindArgs fd ⟨[v, u], []⟩ = pure [(a, v), (b, u)]) : ∀ (vs : List Value) (s : Shared), vs.length = 2 → BindsTo s fd ⟨vs, []⟩ ([a, b].zip (vs ++ [])) := by
  intro vs s hv
  match vs, hv with
  | [v, u], _ => exact BindsTo.of_eq (h v u)
section
variable {prog : Program} {w : World} {H0 : Heap} {p : Program} {loose : List Str} {mg mb : Str → Option Value}
noncomputable abbrev gi (prog : Program) (w : World) (H0 : Heap) (p : Program) (loose : List Str) (mg mb : Str → Option Value) : GI := ⟨prog, w, Mine.k0.heap_1 w.params, H0, 363, p, loose, mg, mb, 535⟩
theorem gv_len : GV (gi prog w H0 p loose mg mb) "len" (.builtin "len") := GV.boot (by kernel_rfl) (by kernel_rfl) (by decide) (by rfl)
theorem gv_wire : GV (gi prog w H0 p loose mg mb) "_law_wire" (.ref 439) := GV.glob (by kernel_rfl) (by rfl)
theorem gv_Name : GV (gi prog w H0 p loose mg mb) "Name" (.ref 363) := GV.glob (by kernel_rfl) (by rfl)
def wire (ls : List (List UInt8)) : Int := (ls.map fun l => (l.length : Int) + 1).sum
theorem bytes_at {ls : List (List UInt8)} {k : Nat} {d : V} (h : (ls.map V.bytes)[k]? = some d) : ∃ b, ls[k]? = some b ∧ d = .bytes b := by
  simp only [List.getElem?_map, Option.map_eq_some_iff] at h
  obtain ⟨b, e, rfl⟩ := h; exact ⟨b, e, rfl⟩
theorem wire_succ {ls : List (List UInt8)} {k : Nat} {b : List UInt8} (h : ls[k]? = some b) : wire (ls.take (k + 1)) = wire (ls.take k) + (b.length + 1) := by
  unfold wire
  rw [List.take_add_one, h]; simp
theorem fn_wire {ls : List (List UInt8)} : Fn (gi prog w H0 p loose mg mb) 1 (.ref 439) [.list (ls.map .bytes)] (.ok (.int (wire ls))) := by
  refine Fn.intro (n := 0) (names := ["labels"]) (loc := ["total", "label"]) (xs := []) (dx := []) (by rfl) (by kernel_rfl) (fun vs s hv _ => bind1 (fun v => by rfl) vs s hv) (fun _ _ => by simp only [RepL]) (by decide +kernel) rfl (by decide +kernel) (by decide +kernel) ?_
  rintro ⟨⟨sc, lo, gl, ce, qu, fu, co, fr, bu⟩, A, st, ou, hE, xs, ys⟩ ok hs hx hy hc
  dsimp only at hs hx hy hc
  subst hs hx hy hc
  refine Ex.assign ok 1 rfl Ev.cint ?_
  refine Ex.seq (O₁ := fun o => o = .next [some (.sh (.list (ls.map .bytes))), some (.sh (.int (wire ls))), none]) (Ex.for (τ := Int) ok 2 rfl (ItSrc.list ok (Ev.name ok 0 rfl rfl)) (fun t => [some (.sh (.list (ls.map .bytes))), some (.sh (.int t)), none]) (fun k t => t = wire (ls.take k)) 0 (.keep (.keep (.drop .nil))) (by simp [wire]) ?turn ?done) ?rest ?out
  case turn =>
    intro k t d hd hJ
    obtain ⟨b, hb, rfl⟩ := bytes_at hd
    subst hJ
    refine Ex.aug ok 1 rfl rfl (Ev.bin ok (Ev.callB ok rfl gv_len kept_builtin (Evs.cons ok (Ev.name ok 2 rfl rfl) Evs.nil rfl) Bi.lenBytes) Ev.cint Op2.add) Op2.iadd (Ex.nil ⟨_, ?_, .keep (.keep (.drop .nil))⟩)
    rw [wire_succ hb]
  case done => intro t hJ; subst hJ; simp
  case rest =>
    intro ρ' h; injection h with h; subst h
    exact Ex.ret ok (Ev.name ok 1 rfl rfl) (fun d h => by injection h with h; subst h; exact .inl rfl) (fun c h => nomatch h)
  case out => intro o h hn; exact (hn _ h).elim
end
section
variable {prog : Program} {w : World} {H0 : Heap} {p : Program} {loose : List Str} {mg mb : Str → Option Value}
theorem retO {d : V} : RetO (.ok d) (.ret d) := .inl rfl
section
variable {g : GI} {f : Fm} {n : Nat} {ρ : En}
theorem Ex.retV {e : Expr} {pos : Pos} {rest : List Stmt} {d : V} (ok : FmOk g f n) (he : Ev g f ρ e (.ok d)) : Ex g f ρ (.Return (some e) pos :: rest) (RetO (.ok d)) :=
  Ex.ret ok he (fun d' h => by injection h with h; subst h; exact retO) fun c h => nomatch h
theorem Ex.retV' {e : Expr} {pos : Pos} {rest : List Stmt} {d : V} {O : Out → Prop} (ok : FmOk g f n) (he : Ev g f ρ e (.ok d)) (ho : O (.ret d)) : Ex g f ρ (.Return (some e) pos :: rest) O :=
  Ex.ret ok he (fun d' h => by injection h with h; subst h; exact ho) fun c h => nomatch h
def NoN (O : Out → Prop) (o : Out) : Prop := O o ∧ ∀ ρ', o ≠ .next ρ'
theorem Ex.retN {e : Expr} {pos : Pos} {rest : List Stmt} {d : V} {O : Out → Prop} (ok : FmOk g f n) (he : Ev g f ρ e (.ok d)) (ho : O (.ret d)) : Ex g f ρ (.Return (some e) pos :: rest) (NoN O) := Ex.retV' ok he ⟨ho, fun _ h => nomatch h⟩
theorem Ex.ifR {t : Expr} {a rest : List Stmt} {pos : Pos} {c : Bool} {O : Out → Prop} (ok : FmOk g f n) (ht : Te g f ρ t c) (ha : c = true → Ex g f ρ a (NoN O)) (hb : c = false → Ex g f ρ rest O) : Ex g f ρ (.If t a [] pos :: rest) O :=
  Ex.iff ok ht (fun o => NoN O o ∨ (c = false ∧ o = .next ρ)) (fun h => (ha h).mono fun o => .inl) (fun h => Ex.nil (.inr ⟨h, rfl⟩))
    (fun ρ' h => h.elim (fun h => (h.2 _ rfl).elim) fun ⟨hc, e⟩ => by injection e with e; subst e; exact hb hc) fun o h hn => h.elim (·.1) fun h => (hn _ h.2).elim
theorem Ex.ifJ {t : Expr} {a b rest : List Stmt} {pos : Pos} {c : Bool} {O : Out → Prop} (ok : FmOk g f n) (ρ' : En) (ht : Te g f ρ t c) (ha : c = true → Ex g f ρ a (fun o => o = .next ρ')) (hb : c = false → Ex g f ρ b (fun o => o = .next ρ')) (h : Ex g f ρ' rest O) : Ex g f ρ (.If t a b pos :: rest) O :=
  Ex.iff ok ht (fun o => o = .next ρ') ha hb (fun ρ'' e => by injection e with e; subst e; exact h) fun o e hn => (hn _ e).elim
end
def absL (ls : List (List UInt8)) : Bool := ls.getLast? == some []
theorem last_at {ls : List (List UInt8)} (h : 0 < ls.length) : (ls.map V.bytes)[vidx (ls.map V.bytes).length (-1)]? = some (.bytes (ls.getLastD [])) := by
  have e : vidx (ls.map V.bytes).length (-1) = ls.length - 1 := by unfold vidx; rw [if_pos (by decide)]; simp; omega
  rw [e, List.getElem?_map, ← List.getLast?_eq_getElem?]
  rw [List.getLastD_eq_getLast?]
  cases q : ls.getLast? with
  | none => rw [List.getLast?_eq_none_iff] at q; subst q; simp at h
  | some b => simp
theorem absL_eq (ls : List (List UInt8)) : (decide ((0 : Int) < ((ls.map V.bytes).length : Int)) && V.eqv (.bytes (ls.getLastD [])) (.bytes [])) = absL ls := by
  unfold absL
  simp only [V.eqv, List.length_map]
  cases q : ls.getLast? with
  | none => rw [List.getLast?_eq_none_iff] at q; subst q; rfl
  | some b =>
    have hl : 0 < ls.length := by cases ls with | nil => simp at q | cons _ _ => simp
    rw [List.getLastD_eq_getLast?, q]
    simp [hl]
theorem fn_absolute {ls : List (List UInt8)} : Fn (gi prog w H0 p loose mg mb) 2 (.ref 446) [.list (ls.map .bytes)] (.ok (.bool (absL ls))) := by
  refine Fn.intro (n := 1) (names := ["labels"]) (loc := []) (xs := []) (dx := []) (by rfl) (by kernel_rfl) (fun vs s hv _ => bind1 (fun v => by rfl) vs s hv) (fun _ _ => by simp only [RepL]) (by decide +kernel) rfl (by decide +kernel) (by decide +kernel) ?_
  rintro ⟨⟨sc, lo, gl, ce, qu, fu, co, fr, bu⟩, A, st, ou, hE, xs, ys⟩ ok hs hx hy hc
  dsimp only at hs hx hy hc
  subst hs hx hy hc
  refine Ex.retV ok ?_
  rw [← absL_eq]
  refine Ev.boolop (BAll.and_cons ok (Ev.cmp ok (Ev.callB ok rfl gv_len kept_builtin (Evs.cons ok (Ev.name ok 0 rfl rfl) Evs.nil rfl) Bi.lenList) Ev.cint Op2.gt) fun h => BAll.one (Ev.cmp ok (Ev.sub ok (Ev.name ok 0 rfl rfl) (Ev.neg Ev.cint) (.inl rfl) (Op2.itemList (last_at ?_) ?_)) (Ev.cbytes (by decide)) (Op2.eqV 0 (by simp [V.dep]) (by decide) (by decide) rfl)))
  · simpa using h
  · simp at h ⊢; omega
theorem gv_isinstance : GV (gi prog w H0 p loose mg mb) "isinstance" (.builtin "isinstance") := GV.boot (by kernel_rfl) (by kernel_rfl) (by decide) (by rfl)
theorem gv_bytes : GV (gi prog w H0 p loose mg mb) "bytes" (.type "bytes") := GV.boot (by kernel_rfl) (by kernel_rfl) (by decide) (by rfl)
theorem gv_tuple : GV (gi prog w H0 p loose mg mb) "tuple" (.type "tuple") := GV.boot (by kernel_rfl) (by kernel_rfl) (by decide) (by rfl)
theorem gv_list : GV (gi prog w H0 p loose mg mb) "list" (.type "list") := GV.boot (by kernel_rfl) (by kernel_rfl) (by decide) (by rfl)
theorem gv_range : GV (gi prog w H0 p loose mg mb) "range" (.type "range") := GV.boot (by kernel_rfl) (by kernel_rfl) (by decide) (by rfl)
theorem fn_maybe {b : List UInt8} : Fn (gi prog w H0 p loose mg mb) 2 (.ref 146) [.bytes b] (.ok (.bytes b)) := by
  refine Fn.intro (n := 1) (names := ["label"]) (loc := []) (xs := []) (dx := []) (by rfl) (by kernel_rfl) (fun vs s hv _ => bind1 (fun v => by rfl) vs s hv) (fun _ _ => by simp only [RepL]) (by decide +kernel) rfl (by decide +kernel) (by decide +kernel) ?_
  rintro ⟨⟨sc, lo, gl, ce, qu, fu, co, fr, bu⟩, A, st, ou, hE, xs, ys⟩ ok hs hx hy hc
  dsimp only at hs hx hy hc
  subst hs hx hy hc
  refine Ex.ite ok (Te.val (Ev.isInst ok rfl gv_isinstance rfl gv_bytes (Ev.name ok 0 rfl rfl) (.inl ⟨_, rfl, rfl⟩))) (fun h => Ex.retV ok (Ev.name ok 0 rfl rfl)) (fun h => nomatch h)
end
section
variable {prog : Program} {w : World} {H0 : Heap} {p : Program} {loose : List Str} {mg mb : Str → Option Value}
section
variable {g : GI} {f : Fm} {n : Nat} {ρ : En}
theorem TAll.and1 {x : Expr} {a : Bool} (ok : FmOk g f n) (hx : Te g f ρ x a) : TAll g f ρ .And [x] a := by
  have := TAll.and_cons (es := []) (b := true) ok hx fun _ => TAll.and_nil
  rwa [Bool.and_true] at this
theorem TAll.or1 {x : Expr} {a : Bool} (ok : FmOk g f n) (hx : Te g f ρ x a) : TAll g f ρ .Or [x] a := by
  have := TAll.or_cons (es := []) (b := false) ok hx fun _ => TAll.or_nil
  rwa [Bool.or_false] at this
end
def fe (ls : List (List UInt8)) : Int := match ls.findIdx? (· == []) with
  | some i => (i : Int)
  | none => -1
structure Lawful (ls : List (List UInt8)) : Prop where
  short : ∀ b ∈ ls, b.length ≤ 63
  small : wire ls ≤ 255
  last : fe ls < 0 ∨ fe ls = (ls.length : Int) - 1
theorem fe_succ {ls : List (List UInt8)} {k : Nat} {b : List UInt8} (h : ls[k]? = some b) : fe (ls.take (k + 1)) = if fe (ls.take k) < 0 ∧ b = [] then (k : Int) else fe (ls.take k) := by
  have hk : k < ls.length := (List.getElem?_eq_some_iff.mp h).1
  unfold fe
  rw [List.take_add_one, h]
  simp only [Option.toList_some, List.findIdx?_append]
  cases q : (ls.take k).findIdx? (· == []) with
  | some i =>
    have : ¬ ((i : Int) < 0) := by omega
    simp [this]
  | none =>
    simp only [Option.none_or]
    by_cases hb : b = []
    · subst hb; simp; omega
    · simp [hb]
def validR (tl : Addr) (ls : List (List UInt8)) : Res := if 255 < wire ls then .exc (.ref tl) else .ok .none
theorem excTooLong : ExcK (gi prog w H0 p loose mg mb) "NameTooLong" 94 := ⟨by kernel_rfl, by kernel_rfl, by kernel_rfl, by kernel_rfl⟩
theorem fn_validate {ls : List (List UInt8)} (short : ∀ b ∈ ls, b.length ≤ 63) (last : fe ls < 0 ∨ fe ls = (ls.length : Int) - 1) : Fn (gi prog w H0 p loose mg mb) 2 (.ref 139) [.tup (ls.map .bytes)] (validR 94 ls) := by
  refine Fn.intro (n := 1) (names := ["labels"]) (loc := ["l", "total", "i", "j", "label", "ll"]) (xs := []) (dx := []) (by rfl) (by kernel_rfl) (fun vs s hv _ => bind1 (fun v => by rfl) vs s hv) (fun _ _ => by simp only [RepL]) (by decide +kernel) rfl (by decide +kernel) (by decide +kernel) ?_
  rintro ⟨⟨sc, lo, gl, ce, qu, fu, co, fr, bu⟩, A, st, ou, hE, xs, ys⟩ ok hs hx hy hc
  dsimp only at hs hx hy hc
  subst hs hx hy hc
  refine Ex.assign ok 1 rfl (Ev.callB ok rfl gv_len kept_builtin (Evs.cons ok (Ev.name ok 0 rfl rfl) Evs.nil rfl) Bi.lenTup) ?_
  refine Ex.assign ok 2 rfl Ev.cint ?_
  refine Ex.assign ok 3 rfl (Ev.neg Ev.cint) ?_
  refine Ex.assign ok 4 rfl Ev.cint ?_
  let R : Int × Int × Int → En := fun t => [some (.sh (.tup (ls.map .bytes))), some (.sh (.int ((ls.map V.bytes).length : Int))), some (.sh (.int t.1)), some (.sh (.int t.2.1)), some (.sh (.int t.2.2)), none, none]
  refine Ex.seq (O₁ := fun o => o = .next (R (wire ls, fe ls, ls.length))) (Ex.for (τ := Int × Int × Int) ok 5 rfl (ItSrc.tup ok (Ev.name ok 0 rfl rfl)) R (fun k t => t = (wire (ls.take k), fe (ls.take k), (k : Int))) (0, -1, 0)
    (.keep (.keep (.keep (.keep (.keep (.drop (.drop .nil))))))) (by simp [wire, fe]) ?turn ?done) ?rest ?out
  case done => intro t hJ; subst hJ; simp
  case out => intro o h hn; exact (hn _ h).elim
  case turn =>
    intro k t d hd hJ
    obtain ⟨b, hb, rfl⟩ := bytes_at hd
    subst hJ
    have hm : b ∈ ls := List.mem_of_getElem? hb
    refine Ex.assign ok 6 rfl (Ev.callB ok rfl gv_len kept_builtin (Evs.cons ok (Ev.name ok 5 rfl rfl) Evs.nil rfl) Bi.lenBytes) ?_
    refine Ex.aug ok 2 rfl rfl (Ev.bin ok (Ev.name ok 6 rfl rfl) Ev.cint Op2.add) Op2.iadd ?_
    refine Ex.ifR ok (Te.cmp ok (Ev.name ok 6 rfl rfl) Ev.cint Op2.gt) (fun h => ?_) fun h => ?_
    · have := short b hm
      simp at h; omega
    refine Ex.ifJ ok (c := decide (fe (ls.take k) < 0) && V.eqv (.bytes b) (.bytes [])) ((R (wire (ls.take k) + ((b.length : Int) + 1), fe (ls.take (k + 1)), (k : Int))).set 5 (some (.sh (.bytes b))) |>.set 6 (some (.sh (.int (b.length : Int)))))
      (Te.bool (TAll.and_cons ok (Te.cmp ok (Ev.name ok 3 rfl rfl) Ev.cint Op2.lt) fun h => TAll.and1 ok (Te.cmp ok (Ev.name ok 5 rfl rfl) (Ev.cbytes (b := []) (by decide)) (Op2.eqV 0 (by simp [V.dep]) (by decide) (by decide) rfl)))) (fun h => ?_) (fun h => ?_) ?_
    · rw [fe_succ hb, if_pos (by simpa [V.eqv] using h)]
      exact Ex.assign ok 3 rfl (Ev.name ok 4 rfl rfl) (Ex.nil rfl)
    · rw [fe_succ hb, if_neg (by simpa [V.eqv] using h)]
      exact Ex.nil rfl
    · refine Ex.aug ok 4 rfl rfl Ev.cint Op2.iadd (Ex.nil ⟨(wire (ls.take k) + ((b.length : Int) + 1), fe (ls.take (k + 1)), (k : Int) + 1), ?_, .keep (.keep (.keep (.keep (.keep (.drop (.drop .nil))))))⟩)
      rw [wire_succ hb]; simp
  case rest =>
    intro ρ' h; injection h with h; subst h
    refine Ex.ifR ok (Te.cmp ok (Ev.name ok 2 rfl rfl) Ev.cint Op2.gt) (fun h => ?_) fun h => ?_
    · unfold validR; rw [if_pos (by simpa using h)]
      exact Ex.raiseOwn ok rfl excTooLong ⟨⟨_, rfl⟩, fun _ h => nomatch h⟩
    unfold validR; rw [if_neg (by simpa using h)]
    refine Ex.ifR ok (Te.bool (TAll.and_cons ok (Te.cmp ok (Ev.name ok 3 rfl rfl) Ev.cint Op2.ge) fun h => TAll.and1 ok (Te.cmp ok (Ev.name ok 3 rfl rfl) (Ev.bin ok (Ev.name ok 1 rfl rfl) Ev.cint Op2.sub) Op2.ne))) (fun h => ?_) fun h => Ex.nil (.inr ⟨rfl, _, rfl⟩)
    have := last
    simp at h; omega
end
theorem bind2' {fd : FuncData} {a b : Str} (h : ∀ v u, bindArgs fd ⟨[v, u], []⟩ = pure [(a, v), (b, u)]) : ∀ (vs : List Value) (s : Shared), vs.length = 2 → BindsTo s fd ⟨vs, []⟩ ([a, b].zip vs) := by
  intro vs s hv
  match vs, hv with
  | [v, u], _ => exact BindsTo.of_eq (h v u)
section
variable {g : GI} {f : Fm} {n : Nat} {ρ : En}
end
section
variable {prog : Program} {w : World} {H0 : Heap} {p : Program} {loose : List Str} {mg mb : Str → Option Value}
theorem gv_validate : GV (gi prog w H0 p loose mg mb) "_validate_labels" (.ref 139) := GV.glob (by kernel_rfl) (by rfl)
theorem gv_maybe : GV (gi prog w H0 p loose mg mb) "_maybe_convert_to_binary" (.ref 146) := GV.glob (by kernel_rfl) (by rfl)
theorem setK : SetK (gi prog w H0 p loose mg mb) := ⟨by kernel_rfl, by kernel_rfl, by kernel_rfl, by kernel_rfl⟩
theorem labK : LabK (gi prog w H0 p loose mg mb) := ⟨by kernel_rfl, by kernel_rfl, by kernel_rfl⟩
theorem Ex.exprR {g : GI} {f : Fm} {n : Nat} {ρ : En} {e : Expr} {spos : Pos} {rest : List Stmt} {r : Res} {O : Out → Prop} (ok : FmOk g f n) (he : Ev g f ρ e r) (hr : ∀ d, r = .ok d → d = .none) (h : ∀ d, r = .ok d → Ex g f ρ rest O) (hc : ∀ c, r = .exc c → O (.exc c ρ)) (hi : interactive f.env = false := by rfl) (hs : swapsWith e none spos.line f.env = pure false := by rfl) :
    Ex g f ρ (.Expr e spos :: rest) O := fun σ s Q E S q ex => by
  refine wpAny_execs_cons (wpAny_Expr (he σ s _ _ S (fun v d h' tk er k rep => ?_) fun c e' h' tk er fl => ?_) hi hs)
  · have := hr d er; subst this
    simp only [Rep] at rep; subst rep
    exact Ex.after (σ := σ) (ρ := ρ) (s := s) (h .none er) (S.mono ok k) k.trn q ex
  · exact ex c ρ e' h' tk (hc c er) ⟨σ, s.heap, S, Trn.refl .., .inl fl⟩
def nameR (tl : Addr) (ls : List (List UInt8)) : Res := if 255 < wire ls then .exc (.ref tl) else .ok (.name ls)
theorem fn_NameG {ls : List (List UInt8)} (short : ∀ b ∈ ls, b.length ≤ 63) (last : fe ls < 0 ∨ fe ls = (ls.length : Int) - 1) (hz : ls.length ≤ 1000) : Fn (gi prog w H0 p loose mg mb) 5 (.ref 363) [.list (ls.map .bytes)] (nameR 94 ls) := by
  refine Fn.make (g := gi prog w H0 p loose mg mb) (n := 3) (fI := 158) (names := ["self", "labels"]) (loc := ["blabels"]) (by kernel_rfl) (by kernel_rfl) (by kernel_rfl) (by rfl) (by kernel_rfl) (fun vs s hv _ => bind2' (fun v u => by rfl) vs s hv) (by decide +kernel) rfl (by decide +kernel) (by decide +kernel) ?_
  rintro ⟨⟨sc, lo, gl, ce, qu, fu, co, fr, bu⟩, A, st, ou, hE, xs, ys⟩ ok hs hx hy hc
  dsimp only at hs hx hy hc
  subst hs hx hy hc
  refine Ex.assignComp (es := ls.map .bytes) ok 2 rfl (CompOk.plain ⟨by decide +kernel, by rfl, by decide +kernel, by rfl, by decide +kernel, by decide +kernel, fun y hy => nomatch hy⟩ (by decide +kernel) (ItSrc.list ok (Ev.name ok 1 rfl rfl)) (by simp; exact small_line hz) rfl ?_) ?_ (by rfl)
  · intro k d e hd he
    rw [hd] at he; injection he with he; subst he
    obtain ⟨b, hb, rfl⟩ := bytes_at hd
    rintro ⟨⟨sc, lo, gl, ce, qu, fu, co, fr, bu⟩, A, st, ou, hE, xs, ys⟩ ok' hs hx hy
    dsimp only at hs hx hy
    subst hs hx hy
    exact Ev.call ok' rfl gv_maybe (.inr (by kernel_rfl)) (by decide) (Evs.cons ok' (Ev.name ok' 0 rfl rfl) Evs.nil rfl) fn_maybe
  refine Ex.setLabels ok 0 rfl rfl setK (Ev.callB ok rfl gv_tuple kept_type (Evs.cons ok (Ev.name ok 2 rfl rfl) Evs.nil rfl) Bi.tupL) ?_
  have hv : (∀ d, validR 94 ls = .ok d → d = .none) ∧ (∀ c, validR 94 ls = .exc c → nameR 94 ls = .exc c) ∧ (∀ d, validR 94 ls = .ok d → nameR 94 ls = .ok (.name ls)) := by
    unfold validR nameR
    split
    · exact ⟨(fun d h => nomatch h), (fun c h => h), (fun d h => nomatch h)⟩
    · exact ⟨(fun d h => by injection h with h; exact h.symm), (fun c h => nomatch h), (fun d h => rfl)⟩
  refine Ex.exprR ok (Ev.call ok rfl gv_validate (.inr (by kernel_rfl)) (by decide) (Evs.cons ok (Ev.labelsMe ok labK 0 rfl rfl) Evs.nil rfl) (fn_validate short last)) hv.1 (fun d h => ?_) (fun c h => ?_)
  · rw [hv.2.2 d h]; exact Ex.nil ⟨_, rfl, rfl⟩
  · rw [hv.2.1 c h]; exact ⟨_, rfl⟩
theorem fn_NameT {ls : List (List UInt8)} (short : ∀ b ∈ ls, b.length ≤ 63) (last : fe ls < 0 ∨ fe ls = (ls.length : Int) - 1) (hz : ls.length ≤ 1000) : Fn (gi prog w H0 p loose mg mb) 5 (.ref 363) [.tup (ls.map .bytes)] (nameR 94 ls) := by
  refine Fn.make (g := gi prog w H0 p loose mg mb) (n := 3) (fI := 158) (names := ["self", "labels"]) (loc := ["blabels"]) (by kernel_rfl) (by kernel_rfl) (by kernel_rfl) (by rfl) (by kernel_rfl) (fun vs s hv _ => bind2' (fun v u => by rfl) vs s hv) (by decide +kernel) rfl (by decide +kernel) (by decide +kernel) ?_
  rintro ⟨⟨sc, lo, gl, ce, qu, fu, co, fr, bu⟩, A, st, ou, hE, xs, ys⟩ ok hs hx hy hc
  dsimp only at hs hx hy hc
  subst hs hx hy hc
  refine Ex.assignComp (es := ls.map .bytes) ok 2 rfl (CompOk.plain ⟨by decide +kernel, by rfl, by decide +kernel, by rfl, by decide +kernel, by decide +kernel, fun y hy => nomatch hy⟩ (by decide +kernel) (ItSrc.tup ok (Ev.name ok 1 rfl rfl)) (by simp; exact small_line hz) rfl ?_) ?_ (by rfl)
  · intro k d e hd he
    rw [hd] at he; injection he with he; subst he
    obtain ⟨b, hb, rfl⟩ := bytes_at hd
    rintro ⟨⟨sc, lo, gl, ce, qu, fu, co, fr, bu⟩, A, st, ou, hE, xs, ys⟩ ok' hs hx hy
    dsimp only at hs hx hy
    subst hs hx hy
    exact Ev.call ok' rfl gv_maybe (.inr (by kernel_rfl)) (by decide) (Evs.cons ok' (Ev.name ok' 0 rfl rfl) Evs.nil rfl) fn_maybe
  refine Ex.setLabels ok 0 rfl rfl setK (Ev.callB ok rfl gv_tuple kept_type (Evs.cons ok (Ev.name ok 2 rfl rfl) Evs.nil rfl) Bi.tupL) ?_
  have hv : (∀ d, validR 94 ls = .ok d → d = .none) ∧ (∀ c, validR 94 ls = .exc c → nameR 94 ls = .exc c) ∧ (∀ d, validR 94 ls = .ok d → nameR 94 ls = .ok (.name ls)) := by
    unfold validR nameR
    split
    · exact ⟨(fun d h => nomatch h), (fun c h => h), (fun d h => nomatch h)⟩
    · exact ⟨(fun d h => by injection h with h; exact h.symm), (fun c h => nomatch h), (fun d h => rfl)⟩
  refine Ex.exprR ok (Ev.call ok rfl gv_validate (.inr (by kernel_rfl)) (by decide) (Evs.cons ok (Ev.labelsMe ok labK 0 rfl rfl) Evs.nil rfl) (fn_validate short last)) hv.1 (fun d h => ?_) (fun c h => ?_)
  · rw [hv.2.2 d h]; exact Ex.nil ⟨_, rfl, rfl⟩
  · rw [hv.2.1 c h]; exact ⟨_, rfl⟩
theorem fn_Name {ls : List (List UInt8)} (hl : Lawful ls) (hz : ls.length ≤ 1000) : Fn (gi prog w H0 p loose mg mb) 5 (.ref 363) [.list (ls.map .bytes)] (.ok (.name ls)) := by
  have h := fn_NameG (prog := prog) (w := w) (H0 := H0) (p := p) (loose := loose) (mg := mg) (mb := mb) hl.short hl.last hz
  unfold nameR at h
  rwa [if_neg (by have := hl.small; omega)] at h
end
section
variable {prog : Program} {w : World} {H0 : Heap} {p : Program} {loose : List Str} {mg mb : Str → Option Value}
theorem gv_NR : GV (gi prog w H0 p loose mg mb) "NameRelation" (.ref 68) := GV.glob (by kernel_rfl) (by rfl)
theorem nr_reads : readsIn (gi prog w H0 p loose mg mb).K 68 (.type "type") = true := by kernel_rfl
theorem nr_none : ∃ tk, findCls (gi prog w H0 p loose mg mb).K (.ref 68) (.type "type") "NONE" = some (.val (.int 0 tk)) := ⟨_, by rfl⟩
theorem fn_is_abs {ls : List (List UInt8)} : Fn (gi prog w H0 p loose mg mb) 2 (.ref 165) [.name ls] (.ok (.bool (absL ls))) := by
  refine Fn.intro (n := 1) (names := ["self"]) (loc := []) (xs := []) (dx := []) (by rfl) (by kernel_rfl) (fun vs s hv _ => bind1 (fun v => by rfl) vs s hv) (fun _ _ => by simp only [RepL]) (by decide +kernel) rfl (by decide +kernel) (by decide +kernel) ?_
  rintro ⟨⟨sc, lo, gl, ce, qu, fu, co, fr, bu⟩, A, st, ou, hE, xs, ys⟩ ok hs hx hy hc
  dsimp only at hs hx hy hc
  subst hs hx hy hc
  refine Ex.retV ok ?_
  rw [← absL_eq]
  refine Ev.boolop (BAll.and_cons ok (Ev.cmp ok (Ev.callB ok rfl gv_len kept_builtin (Evs.cons ok (Ev.labels ok labK (Ev.name ok 0 rfl rfl)) Evs.nil rfl) Bi.lenTup) Ev.cint Op2.gt) fun h => BAll.one (Ev.cmp ok (Ev.sub ok (Ev.labels ok labK (Ev.name ok 0 rfl rfl)) (Ev.neg Ev.cint) (.inr (.inl rfl)) (Op2.itemTup (last_at ?_) ?_)) (Ev.cbytes (by decide)) (Op2.eqV 0 (by simp [V.dep]) (by decide) (by decide) rfl)))
  · simpa using h
  · simp at h ⊢; omega
def wildL (ls : List (List UInt8)) : Bool := ls.head? == some [42]
end
section
variable {g : GI} {f : Fm} {n : Nat} {ρ : En}
theorem Ex.ifE {t : Expr} {a b rest : List Stmt} {pos : Pos} {c : Bool} {O : Out → Prop} {Pc : Prop} (ok : FmOk g f n) (ht : Te g f ρ t c) (ha : c = true → Ex g f ρ a (NoN O)) (hb : c = false → Ex g f ρ b (fun o => NoN O o ∨ (o = .next ρ ∧ Pc))) (h : Pc → Ex g f ρ rest O) : Ex g f ρ (.If t a b pos :: rest) O :=
  Ex.iff ok ht (fun o => NoN O o ∨ (o = .next ρ ∧ Pc)) (fun h => (ha h).mono fun o => .inl) hb
    (fun ρ' h' => h'.elim (fun h' => (h'.2 _ rfl).elim) fun ⟨e, hp⟩ => by injection e with e; subst e; exact h hp) fun o h' hn => h'.elim (·.1) fun h' => (hn _ h'.1).elim
end
def fcGo : List (List UInt8) → List (List UInt8) → Int → Int → Int × Int × Int
  | x :: xs, y :: ys, k, ld => if (bord (blow x) (blow y) == .lt) = true then (if k > 0 then 4 else 0, -1, k) else if (bord (blow x) (blow y) == .gt) = true then (if k > 0 then 4 else 0, 1, k) else fcGo xs ys (k + 1) ld
  | _, _, k, ld => (if ld < 0 then 1 else if ld > 0 then 2 else 3, ld, k)
def fc (a b : List (List UInt8)) : Int × Int × Int :=
  if (!V.eqv (.bool (absL a)) (.bool (absL b))) = true then (if absL a = true then (0, 1, 0) else (0, -1, 0)) else fcGo a.reverse b.reverse 0 ((a.length : Int) - b.length)
def fcV (t : Int × Int × Int) : V := .tup [.int t.1, .int t.2.1, .int t.2.2]
theorem rev_drop {a : List (List UInt8)} {k : Nat} (h : k < a.length) : ∃ x, a.reverse.drop k = x :: a.reverse.drop (k + 1) ∧ (a.map V.bytes)[vidx (a.map V.bytes).length ((a.length : Int) - k - 1)]? = some (.bytes x) := by
  have hk : k < a.reverse.length := by simpa using h
  refine ⟨a.reverse[k], List.drop_eq_getElem_cons hk, ?_⟩
  have e : vidx (a.map V.bytes).length ((a.length : Int) - k - 1) = a.length - 1 - k := by unfold vidx; rw [if_neg (by omega)]; omega
  rw [e, List.getElem?_map, List.getElem?_eq_getElem (by omega)]
  simp [List.getElem_reverse]
section
variable {prog : Program} {w : World} {H0 : Heap} {p : Program} {loose : List Str} {mg mb : Str → Option Value}
theorem nr_super : ∃ tk, findCls (gi prog w H0 p loose mg mb).K (.ref 68) (.type "type") "SUPERDOMAIN" = some (.val (.int 1 tk)) := ⟨_, by rfl⟩
theorem nr_sub : ∃ tk, findCls (gi prog w H0 p loose mg mb).K (.ref 68) (.type "type") "SUBDOMAIN" = some (.val (.int 2 tk)) := ⟨_, by rfl⟩
theorem nr_equal : ∃ tk, findCls (gi prog w H0 p loose mg mb).K (.ref 68) (.type "type") "EQUAL" = some (.val (.int 3 tk)) := ⟨_, by rfl⟩
theorem nr_common : ∃ tk, findCls (gi prog w H0 p loose mg mb).K (.ref 68) (.type "type") "COMMONANCESTOR" = some (.val (.int 4 tk)) := ⟨_, by rfl⟩
theorem isAbsM : MethK (gi prog w H0 p loose mg mb) "is_absolute" 165 := ⟨by kernel_rfl, by kernel_rfl, by kernel_rfl, by kernel_rfl, by kernel_rfl, by decide +kernel⟩
section
variable {f : Fm} {n : Nat} {ρ : En}
theorem Ev.nr {name : Str} {np pos : Pos} {k : Int} (ok : FmOk (gi prog w H0 p loose mg mb) f n) (hx : f.env.kindOf "NameRelation" = some .globalImplicit) (h : ∃ tk, findCls (gi prog w H0 p loose mg mb).K (.ref 68) (.type "type") name = some (.val (.int k tk)))
    (he : eval (.Attribute (.Name "NameRelation" np) name pos) f.env = (do
      let o' ← eval (.Name "NameRelation" np) f.env
      standAt pos.atName
      let r ← holding [o'] (getAttr o' name true)
      letTemporaryGo (.Name "NameRelation" np) o' r
      pure r) := by rfl) : Ev (gi prog w H0 p loose mg mb) f ρ (.Attribute (.Name "NameRelation" np) name pos) (.ok (.int k)) := by
  obtain ⟨tk, h⟩ := h
  exact Ev.clsAttr ok hx gv_NR nr_reads h rfl he
end
theorem fn_fc {a b : List (List UInt8)} (ha : a.length ≤ 1000) (hb : b.length ≤ 1000) : Fn (gi prog w H0 p loose mg mb) 4 (.ref 179) [.name a, .name b] (.ok (fcV (fc a b))) := by
  refine Fn.intro (n := 3) (names := ["self", "other"]) (loc := ["sabs", "oabs", "l1", "l2", "ldiff", "l", "order", "nlabels", "namereln", "label1", "label2"]) (xs := []) (dx := []) (by rfl) (by kernel_rfl) (fun vs s hv _ => bind2 (fun v u => by rfl) vs s hv) (fun _ _ => by simp only [RepL]) (by decide +kernel) rfl (by decide +kernel) (by decide +kernel) ?_
  rintro ⟨⟨sc, lo, gl, ce, qu, fu, co, fr, bu⟩, A, st, ou, hE, xs, ys⟩ ok hs hx hy hc
  dsimp only at hs hx hy hc
  subst hs hx hy hc
  refine Ex.assign ok 2 rfl (Ev.meth0 ok isAbsM (by decide) (Ev.name ok 0 rfl rfl) fn_is_abs) ?_
  refine Ex.assign ok 3 rfl (Ev.meth0 ok isAbsM (by decide) (Ev.name ok 1 rfl rfl) fn_is_abs) ?_
  refine Ex.ifR ok (Te.cmp ok (Ev.name ok 2 rfl rfl) (Ev.name ok 3 rfl rfl) (Op2.neV 0 (by simp [V.dep]) (by decide) (by decide) rfl)) (fun h => ?_) fun h => ?_
  · unfold fc; rw [if_pos h]
    refine Ex.ite ok (Te.val (Ev.name ok 2 rfl rfl)) (fun h => ?_) (fun h => ?_)
    · rw [if_pos h]
      exact Ex.retN ok (Ev.tupD ok (Evs.cons ok (Ev.nr ok rfl nr_none) (Evs.cons ok Ev.cint (Evs.cons ok Ev.cint Evs.nil rfl) rfl) rfl) (by decide)) retO
    · rw [if_neg (by simp [h])]
      exact Ex.retN ok (Ev.tupD ok (Evs.cons ok (Ev.nr ok rfl nr_none) (Evs.cons ok (Ev.neg Ev.cint) (Evs.cons ok Ev.cint Evs.nil rfl) rfl) rfl) (by decide)) retO
  have hfc : fc a b = fcGo a.reverse b.reverse 0 ((a.length : Int) - b.length) := by unfold fc; rw [if_neg (by simp [h])]
  rw [hfc]
  refine Ex.assign ok 4 rfl (Ev.callB ok rfl gv_len kept_builtin (Evs.cons ok (Ev.labels ok labK (Ev.name ok 0 rfl rfl)) Evs.nil rfl) Bi.lenTup) ?_
  refine Ex.assign ok 5 rfl (Ev.callB ok rfl gv_len kept_builtin (Evs.cons ok (Ev.labels ok labK (Ev.name ok 1 rfl rfl)) Evs.nil rfl) Bi.lenTup) ?_
  refine Ex.assign ok 6 rfl (Ev.bin ok (Ev.name ok 4 rfl rfl) (Ev.name ok 5 rfl rfl) Op2.sub) ?_
  simp only [List.length_map]
  let R : Int × Int × Int × Int → En := fun t => [some (.sh (.name a)), some (.sh (.name b)), none, none, some (.sh (.int t.1)), some (.sh (.int t.2.1)), some (.sh (.int ((a.length : Int) - b.length))), some (.sh (.int t.2.2.1)), some (.sh (.int 0)), some (.sh (.int t.2.2.2)), some (.sh (.int 0)), none, none]
  refine Ex.ifJ ok (ρ' := [some (.sh (.name a)), some (.sh (.name b)), some (.sh (.bool (absL a))), some (.sh (.bool (absL b))), some (.sh (.int (a.length : Int))), some (.sh (.int (b.length : Int))), some (.sh (.int ((a.length : Int) - b.length))), some (.sh (.int ((min a.length b.length : Nat) : Int))), none, none, none, none, none])
    (Te.cmp ok (Ev.name ok 6 rfl rfl) Ev.cint Op2.lt) (fun h => ?_) (fun h => ?_) ?_
  · rw [show ((min a.length b.length : Nat) : Int) = (a.length : Int) by simp at h; omega]
    exact Ex.assign ok 7 rfl (Ev.name ok 4 rfl rfl) (Ex.nil rfl)
  · rw [show ((min a.length b.length : Nat) : Int) = (b.length : Int) by simp at h; omega]
    exact Ex.assign ok 7 rfl (Ev.name ok 5 rfl rfl) (Ex.nil rfl)
  refine Ex.assign ok 8 rfl Ev.cint ?_
  refine Ex.assign ok 9 rfl Ev.cint ?_
  refine Ex.assign ok 10 rfl (Ev.nr ok rfl nr_none) ?_
  generalize hld : (a.length : Int) - b.length = ld at *
  let N : Nat := min a.length b.length
  let R : Nat → En := fun k => [some (.sh (.name a)), some (.sh (.name b)), none, none, some (.sh (.int ((a.length : Int) - k))), some (.sh (.int ((b.length : Int) - k))), some (.sh (.int ld)), some (.sh (.int ((N : Int) - k))), some (.sh (.int 0)), some (.sh (.int k)), some (.sh (.int 0)), none, none]
  let J : Nat → Prop := fun k => k ≤ N ∧ fcGo a.reverse b.reverse 0 ld = fcGo (a.reverse.drop k) (b.reverse.drop k) k ld
  refine Ex.seq (O₁ := fun o => NoN (RetO (.ok (fcV (fcGo a.reverse b.reverse 0 ld)))) o ∨ ∃ k, o = .next (R k) ∧ J k ∧ k = N)
    (Ex.while ok R J (fun k => N - k) 0 ?h0 ⟨Nat.zero_le _, rfl⟩ (fun k => decide ((0 : Int) < (N : Int) - k)) (fun k hJ => Te.cmp ok (Ev.name ok 7 rfl rfl) Ev.cint Op2.gt) ?turn ?done) ?rest ?out
  case h0 =>
    show Weak _ (R 0)
    simp only [R, Int.natCast_zero, Int.sub_zero]
    exact .keep (.keep (.drop (.drop (.keep (.keep (.keep (.keep (.keep (.keep (.keep (.drop (.drop .nil))))))))))))
  case done =>
    intro k hJ hc
    refine .inr ⟨k, rfl, hJ, ?_⟩
    have := hJ.1
    simp at hc; omega
  case out =>
    intro o h hn
    rcases h with h | ⟨k, rfl, _⟩
    · exact h.1
    · exact (hn _ rfl).elim
  case turn =>
    intro k hJ hc
    obtain ⟨hk, hgo⟩ := hJ
    have hkN : k < N := by simp at hc; omega
    have hka : k < a.length := Nat.lt_of_lt_of_le hkN (Nat.min_le_left _ _)
    have hkb : k < b.length := Nat.lt_of_lt_of_le hkN (Nat.min_le_right _ _)
    obtain ⟨x, ex, ix⟩ := rev_drop hka
    obtain ⟨y, ey, iy⟩ := rev_drop hkb
    rw [ex, ey] at hgo
    refine Ex.aug ok 7 rfl rfl Ev.cint Op2.isub ?_
    refine Ex.aug ok 4 rfl rfl Ev.cint Op2.isub ?_
    refine Ex.aug ok 5 rfl rfl Ev.cint Op2.isub ?_
    refine Ex.assign ok 11 rfl (Ev.lower ok (Ev.sub ok (Ev.labels ok labK (Ev.name ok 0 rfl rfl)) (Ev.name ok 4 rfl rfl) (.inr (.inl rfl)) (Op2.itemTup ix (by simp; omega)))) ?_
    refine Ex.assign ok 12 rfl (Ev.lower ok (Ev.sub ok (Ev.labels ok labK (Ev.name ok 1 rfl rfl)) (Ev.name ok 5 rfl rfl) (.inr (.inl rfl)) (Op2.itemTup iy (by simp; omega)))) ?_
    simp only [fcGo] at hgo
    refine Ex.ifE (Pc := (bord (blow x) (blow y) == .lt) = false ∧ (bord (blow x) (blow y) == .gt) = false) ok (Te.cmp ok (Ev.name ok 11 rfl rfl) (Ev.name ok 12 rfl rfl) Op2.ltB) (fun h => ?_) (fun h => ?_) (fun h => ?_)
    · refine Ex.assign ok 8 rfl (Ev.neg Ev.cint) ?_
      refine Ex.ifJ ok (c := decide ((0 : Int) < (k : Int))) (ρ' := [none, none, none, none, none, none, none, none, some (.sh (.int (-1))), some (.sh (.int k)), some (.sh (.int (if (k : Int) > 0 then 4 else 0))), none, none]) (Te.cmp ok (Ev.name ok 9 rfl rfl) Ev.cint Op2.gt) (fun hk0 => ?_) (fun hk0 => ?_) ?_
      · rw [if_pos (by simpa using hk0)]
        exact Ex.assign ok 10 rfl (Ev.nr ok rfl nr_common) (Ex.weak (by repeat (first | exact .nil | refine .keep ?_ | refine .drop ?_)) (Ex.nil rfl))
      · rw [if_neg (by simpa using hk0)]
        exact Ex.weak (by repeat (first | exact .nil | refine .keep ?_ | refine .drop ?_)) (Ex.nil rfl)
      · rw [hgo, if_pos h]
        exact Ex.retN ok (Ev.tupD ok (Evs.cons ok (Ev.name ok 10 rfl rfl) (Evs.cons ok (Ev.name ok 8 rfl rfl) (Evs.cons ok (Ev.name ok 9 rfl rfl) Evs.nil rfl) rfl) rfl) (Nat.le_of_ble_eq_true rfl)) (.inl ⟨retO, fun _ h => nomatch h⟩)
    · refine Ex.ifR ok (Te.cmp ok (Ev.name ok 11 rfl rfl) (Ev.name ok 12 rfl rfl) Op2.gtB) (fun h' => ?_) (fun h' => Ex.nil (.inr ⟨rfl, h, h'⟩))
      refine Ex.assign ok 8 rfl Ev.cint ?_
      refine Ex.ifJ ok (c := decide ((0 : Int) < (k : Int))) (ρ' := [none, none, none, none, none, none, none, none, some (.sh (.int 1)), some (.sh (.int k)), some (.sh (.int (if (k : Int) > 0 then 4 else 0))), none, none]) (Te.cmp ok (Ev.name ok 9 rfl rfl) Ev.cint Op2.gt) (fun hk0 => ?_) (fun hk0 => ?_) ?_
      · rw [if_pos (by simpa using hk0)]
        exact Ex.assign ok 10 rfl (Ev.nr ok rfl nr_common) (Ex.weak (by repeat (first | exact .nil | refine .keep ?_ | refine .drop ?_)) (Ex.nil rfl))
      · rw [if_neg (by simpa using hk0)]
        exact Ex.weak (by repeat (first | exact .nil | refine .keep ?_ | refine .drop ?_)) (Ex.nil rfl)
      · rw [hgo, if_neg (show ¬((bord (blow x) (blow y) == .lt) = true) by simp [h]), if_pos h']
        exact Ex.retN ok (Ev.tupD ok (Evs.cons ok (Ev.name ok 10 rfl rfl) (Evs.cons ok (Ev.name ok 8 rfl rfl) (Evs.cons ok (Ev.name ok 9 rfl rfl) Evs.nil rfl) rfl) rfl) (Nat.le_of_ble_eq_true rfl)) (.inl ⟨.inl ⟨retO, fun _ h => nomatch h⟩, fun _ h => nomatch h⟩)
    · refine Ex.aug ok 9 rfl rfl Ev.cint Op2.iadd (Ex.nil ⟨k + 1, ⟨hkN, ?_⟩, by omega, ?_⟩)
      · rw [hgo, if_neg (by simp [h.1]), if_neg (by simp [h.2])]
        simp
      · have e : R (k + 1) = [some (.sh (.name a)), some (.sh (.name b)), none, none, some (.sh (.int ((a.length : Int) - k - 1))), some (.sh (.int ((b.length : Int) - k - 1))), some (.sh (.int ld)), some (.sh (.int ((N : Int) - k - 1))), some (.sh (.int 0)), some (.sh (.int (k + 1))), some (.sh (.int 0)), none, none] := by
          simp only [R, Int.natCast_add, Int.natCast_one, Int.sub_sub]
        rw [e]
        repeat (first | exact .nil | refine .keep ?_ | refine .drop ?_)
  case rest =>
    rintro ρ' (h | ⟨k, h, ⟨hk, hgo⟩, rfl⟩)
    · exact (h.2 _ rfl).elim
    injection h with h; subst h
    have hend : fcGo (a.reverse.drop N) (b.reverse.drop N) N ld = (if ld < 0 then 1 else if ld > 0 then 2 else 3, ld, (N : Int)) := by
      have : a.reverse.drop N = [] ∨ b.reverse.drop N = [] := by
        simp only [List.drop_eq_nil_iff, List.length_reverse]; omega
      rcases this with e | e <;> rw [e]
      · simp [fcGo]
      · cases a.reverse.drop N <;> simp [fcGo]
    rw [hgo, hend]
    refine Ex.assign ok 8 rfl (Ev.name ok 6 rfl rfl) ?_
    refine Ex.ifJ ok (ρ' := [none, none, none, none, none, none, none, none, some (.sh (.int ld)), some (.sh (.int N)), some (.sh (.int (if ld < 0 then 1 else if ld > 0 then 2 else 3))), none, none]) (Te.cmp ok (Ev.name ok 6 rfl rfl) Ev.cint Op2.lt) (fun h => ?_) (fun h => ?_) ?_
    · rw [if_pos (by simpa using h)]
      exact Ex.assign ok 10 rfl (Ev.nr ok rfl nr_super) (Ex.weak (by repeat (first | exact .nil | refine .keep ?_ | refine .drop ?_)) (Ex.nil rfl))
    · rw [if_neg (by simpa using h)]
      refine Ex.ite ok (Te.cmp ok (Ev.name ok 6 rfl rfl) Ev.cint Op2.gt) (fun h => ?_) (fun h => ?_)
      · rw [if_pos (by simpa using h)]
        exact Ex.assign ok 10 rfl (Ev.nr ok rfl nr_sub) (Ex.weak (by repeat (first | exact .nil | refine .keep ?_ | refine .drop ?_)) (Ex.nil rfl))
      · rw [if_neg (by simpa using h)]
        exact Ex.assign ok 10 rfl (Ev.nr ok rfl nr_equal) (Ex.weak (by repeat (first | exact .nil | refine .keep ?_ | refine .drop ?_)) (Ex.nil rfl))
    · exact Ex.retV ok (Ev.tupD ok (Evs.cons ok (Ev.name ok 10 rfl rfl) (Evs.cons ok (Ev.name ok 8 rfl rfl) (Evs.cons ok (Ev.name ok 9 rfl rfl) Evs.nil rfl) rfl) rfl) (Nat.le_of_ble_eq_true rfl))
end
section
variable {prog : Program} {w : World} {H0 : Heap} {p : Program} {loose : List Str} {mg mb : Str → Option Value}
theorem fcM : MethK (gi prog w H0 p loose mg mb) "fullcompare" 179 := ⟨by kernel_rfl, by kernel_rfl, by kernel_rfl, by kernel_rfl, by kernel_rfl, by decide +kernel⟩
theorem nameIs : isIn (gi prog w H0 p loose mg mb).K (.ref 363) 363 = true := by kernel_rfl
theorem fn_is_sub {a b : List (List UInt8)} (ha : a.length ≤ 1000) (hb : b.length ≤ 1000) : Fn (gi prog w H0 p loose mg mb) 5 (.ref 186) [.name a, .name b] (.ok (.bool (decide ((fc a b).1 = 2) || decide ((fc a b).1 = 3)))) := by
  refine Fn.intro (n := 4) (names := ["self", "other"]) (loc := ["nr", "_"]) (xs := []) (dx := []) (by rfl) (by kernel_rfl) (fun vs s hv _ => bind2 (fun v u => by rfl) vs s hv) (fun _ _ => by simp only [RepL]) (by decide +kernel) rfl (by decide +kernel) (by decide +kernel) ?_
  rintro ⟨⟨sc, lo, gl, ce, qu, fu, co, fr, bu⟩, A, st, ou, hE, xs, ys⟩ ok hs hx hy hc
  dsimp only at hs hx hy hc
  subst hs hx hy hc
  refine Ex.unpack3 ok 2 3 3 rfl rfl rfl (Ev.meth ok fcM (by decide) (Ev.name ok 0 rfl rfl) (Evs.cons ok (Ev.name ok 1 rfl rfl) Evs.nil rfl) (fn_fc ha hb)) ?_
  refine Ex.ifR ok (Te.bool (TAll.or_cons ok (Te.cmp ok (Ev.name ok 2 rfl rfl) (Ev.nr ok rfl nr_sub) Op2.eq) fun _ => TAll.or1 ok (Te.cmp ok (Ev.name ok 2 rfl rfl) (Ev.nr ok rfl nr_equal) Op2.eq))) (fun h => ?_) (fun h => ?_)
  · rw [h]; exact Ex.retN ok Ev.cbool retO
  · rw [h]; exact Ex.retV ok Ev.cbool
theorem fn_eqN {a b : List (List UInt8)} (ha : a.length ≤ 1000) (hb : b.length ≤ 1000) : Fn (gi prog w H0 p loose mg mb) 5 (.ref 207) [.name a, .name b] (.ok (.bool (decide ((fc a b).2.1 = 0)))) := by
  refine Fn.intro (n := 4) (names := ["self", "other"]) (loc := []) (xs := []) (dx := []) (by rfl) (by kernel_rfl) (fun vs s hv _ => bind2 (fun v u => by rfl) vs s hv) (fun _ _ => by simp only [RepL]) (by decide +kernel) rfl (by decide +kernel) (by decide +kernel) ?_
  rintro ⟨⟨sc, lo, gl, ce, qu, fu, co, fr, bu⟩, A, st, ou, hE, xs, ys⟩ ok hs hx hy hc
  dsimp only at hs hx hy hc
  subst hs hx hy hc
  refine Ex.ite ok (Te.val (Ev.isInst ok rfl gv_isinstance rfl gv_Name (Ev.name ok 1 rfl rfl) (.inr ⟨_, rfl, rfl, nameIs⟩))) (fun _ => ?_) (fun h => nomatch h)
  exact Ex.retV ok (Ev.cmp ok (Ev.sub ok (Ev.meth ok fcM (by decide) (Ev.name ok 0 rfl rfl) (Evs.cons ok (Ev.name ok 1 rfl rfl) Evs.nil rfl) (fn_fc ha hb)) Ev.cint (.inr (.inl rfl)) (Op2.itemTup (i := 1) (d := .int (fc a b).2.1) rfl (by simp))) Ev.cint Op2.eq)
end
def smallI (c : UInt8) : Int := if (decide ((65 : Int) ≤ (c.toNat : Int)) && decide ((c.toNat : Int) ≤ 90)) = true then (c.toNat : Int) + 32 else c.toNat
def capI (c : UInt8) : Int := if (decide ((97 : Int) ≤ (c.toNat : Int)) && decide ((c.toNat : Int) ≤ 122)) = true then (c.toNat : Int) - 32 else c.toNat
def bup (b : List UInt8) : List UInt8 := bytesOf (b.map capI)
theorem smallI_lt (c : UInt8) : 0 ≤ smallI c ∧ smallI c < 256 := by
  have := c.toNat_lt
  unfold smallI
  split
  · rename_i h; simp at h; omega
  · omega
theorem capI_lt (c : UInt8) : 0 ≤ capI c ∧ capI c < 256 := by
  have := c.toNat_lt
  unfold capI
  split
  · rename_i h; simp at h; omega
  · omega
theorem small_blow (b : List UInt8) : bytesOf (b.map smallI) = blow b := by
  unfold bytesOf blow
  rw [List.map_map]
  refine List.map_congr_left fun c _ => ?_
  have hc := c.toNat_lt
  show (smallI c).toNat.toUInt8 = Builtin.Bytes.toLower c
  unfold smallI Builtin.Bytes.toLower Builtin.Bytes.isUpper
  by_cases h : 65 ≤ c.toNat ∧ c.toNat ≤ 90
  · have h1 : (decide ((65 : Int) ≤ (c.toNat : Int)) && decide ((c.toNat : Int) ≤ 90)) = true := by simp; omega
    have h2 : (decide (65 ≤ c) && decide (c ≤ 90)) = true := by simp [UInt8.le_iff_toNat_le]; exact h
    rw [if_pos h1, if_pos h2]
    apply UInt8.toNat.inj
    simp [UInt8.toNat_add]
    omega
  · have h1 : ¬ (decide ((65 : Int) ≤ (c.toNat : Int)) && decide ((c.toNat : Int) ≤ 90)) = true := by simp; omega
    have h2 : ¬ (decide (65 ≤ c) && decide (c ≤ 90)) = true := by simp [UInt8.le_iff_toNat_le]; omega
    rw [if_neg h1, if_neg h2]
    simp
section
variable {prog : Program} {w : World} {H0 : Heap} {p : Program} {loose : List Str} {mg mb : Str → Option Value}
theorem vb_at {b : List UInt8} {k : Nat} {d : V} (h : (vbytes b)[k]? = some d) : ∃ c, b[k]? = some c ∧ d = .int (c.toNat : Int) := by
  simp only [vbytes, List.getElem?_map, Option.map_eq_some_iff] at h
  obtain ⟨c, e, rfl⟩ := h; exact ⟨c, e, rfl⟩
theorem fn_small {ls : List (List UInt8)} (hz : ls.length ≤ 1000) (hb : ∀ b ∈ ls, b.length ≤ 1000) : Fn (gi prog w H0 p loose mg mb) 1 (.ref 451) [.list (ls.map .bytes)] (.ok (.list ((ls.map blow).map .bytes))) := by
  refine Fn.intro (n := 0) (names := ["labels"]) (loc := []) (xs := []) (dx := []) (by rfl) (by kernel_rfl) (fun vs s hv _ => bind1 (fun v => by rfl) vs s hv) (fun _ _ => by simp only [RepL]) (by decide +kernel) rfl (by decide +kernel) (by decide +kernel) ?_
  rintro ⟨⟨sc, lo, gl, ce, qu, fu, co, fr, bu⟩, A, st, ou, hE, xs, ys⟩ ok hs hx hy hc
  dsimp only at hs hx hy hc
  subst hs hx hy hc
  refine Ex.retV ok (Ev.comp ok (CompOk.plain ⟨by decide +kernel, by rfl, by decide +kernel, by rfl, by decide +kernel, by decide +kernel, fun y hy => nomatch hy⟩ (by decide +kernel) (ItSrc.list ok (Ev.name ok 0 rfl rfl)) (by simp; exact small_line hz) (by simp) ?_))
  intro k d e hd he
  obtain ⟨b, hbk, rfl⟩ := bytes_at hd
  have : e = .bytes (blow b) := by
    simp only [List.map_map, List.getElem?_map, hbk] at he; simp at he; exact he.symm
  subst this
  have hbl := hb b (List.mem_of_getElem? hbk)
  rintro ⟨⟨sc, lo, gl, ce, qu, fu, co, fr, bu⟩, A, st, ou, hE, xs, ys⟩ ok' hs hx hy
  dsimp only at hs hx hy
  subst hs hx hy
  rw [← small_blow]
  refine Ev.callB ok' rfl gv_bytes kept_type (Evs.cons ok' (Ev.comp (es := (b.map smallI).map .int) ok' (CompOk.plain ⟨by decide +kernel, by rfl, by decide +kernel, by rfl, by decide +kernel, by decide +kernel, fun y hy => nomatch hy⟩ (by decide +kernel) (ItSrc.bytes ok' (Ev.name ok' 0 rfl rfl)) (by simp [vbytes]; exact small_line hbl) (by simp [vbytes]) ?_)) Evs.nil rfl) (Bi.bytesL fun i hi => ?_)
  · intro k d e hd he
    obtain ⟨c, hc, rfl⟩ := vb_at hd
    have : e = .int (smallI c) := by
      simp only [List.map_map, List.getElem?_map, hc] at he; simp at he; exact he.symm
    subst this
    rintro ⟨⟨sc, lo, gl, ce, qu, fu, co, fr, bu⟩, A, st, ou, hE, xs, ys⟩ ok'' hs hx hy
    dsimp only at hs hx hy
    subst hs hx hy
    have e : V.int (smallI c) = if (decide ((65 : Int) ≤ (c.toNat : Int)) && decide ((c.toNat : Int) ≤ 90)) = true then V.int ((c.toNat : Int) + 32) else V.int c.toNat := by unfold smallI; split <;> rfl
    rw [e]
    exact Ev.iteOk ok'' (Te.chain ok'' Ev.cint (Ev.name ok'' 0 rfl rfl) (fun _ => Ev.cint) Op2.le fun _ => Op2.le) (fun _ => Ev.bin ok'' (Ev.name ok'' 0 rfl rfl) Ev.cint Op2.add) (fun _ => Ev.name ok'' 0 rfl rfl)
  · obtain ⟨c, _, rfl⟩ := List.mem_map.mp hi
    exact smallI_lt c
end
theorem wire_nonneg : ∀ (ls : List (List UInt8)), 0 ≤ wire ls
  | [] => by simp [wire]
  | b :: r => by have := wire_nonneg r; unfold wire at *; simp; omega
theorem wire_app (a b : List (List UInt8)) : wire (a ++ b) = wire a + wire b := by unfold wire; simp
theorem wire_take (ls : List (List UInt8)) (k : Nat) : wire (ls.take k) ≤ wire ls := by
  have h := wire_app (ls.take k) (ls.drop k)
  rw [List.take_append_drop] at h
  have := wire_nonneg (ls.drop k)
  omega
section
variable {prog : Program} {w : World} {H0 : Heap} {p : Program} {loose : List Str} {mg mb : Str → Option Value}
theorem gv_absolute : GV (gi prog w H0 p loose mg mb) "_law_absolute" (.ref 446) := GV.glob (by kernel_rfl) (by rfl)
end
theorem slc_map {α β : Type} (f : α → β) (l : List α) (lo hi : Option Int) : slc (l.map f) lo hi = (slc l lo hi).map f := by
  unfold slc; simp [List.map_take, List.map_drop]
theorem sup_bytes : ∀ (a b : List (List UInt8)), V.supL (a.map .bytes) (b.map .bytes) = true
  | [], _ => by simp [V.supL]
  | _ :: _, [] => by simp [V.supL]
  | x :: a, y :: b => by simp [V.supL, V.sup, sup_bytes a b]
theorem eqv_bytes : ∀ (a b : List (List UInt8)), V.eqvL (a.map .bytes) (b.map .bytes) = decide (a = b)
  | [], [] => by simp [V.eqvL]
  | [], _ :: _ => by simp [V.eqvL]
  | _ :: _, [] => by simp [V.eqvL]
  | x :: a, y :: b => by
    simp only [List.map_cons, V.eqvL, V.eqv, eqv_bytes a b]
    by_cases h1 : x = y <;> by_cases h2 : a = b <;> simp [h1, h2]
theorem dep_bytes : ∀ (a : List (List UInt8)), V.depL (a.map .bytes) = 0
  | [] => by simp [V.depL]
  | x :: a => by simp [V.depL, V.dep, dep_bytes a]
section
variable {prog : Program} {w : World} {H0 : Heap} {p : Program} {loose : List Str} {mg mb : Str → Option Value}
end
section
variable {g : GI} {f : Fm} {n : Nat} {ρ : En}
theorem Ev.subScr {value slice : Expr} {pos : Pos} {ns : List Int} {i : Int} {k : Int} (ok : FmOk g f n) (ho : Ev g f ρ value (.ok (.scr ns))) (hi : Ev g f ρ slice (.ok (.int i))) (h0 : 0 ≤ i) (hk : ns[i.toNat]? = some k)
    (hs : ∀ o i, subscripted slice false o i = operate [o, i] (getItem o i) := by intro _ _; rfl) : Ev g f ρ (.Subscript value slice pos) (.ok (.int k)) := fun σ s Q E S q ex => by
  refine Subscript_ (ho σ s _ _ S (fun v d h₁ t₁ e k₁ r₁ => ?_) fun c e' h' tk ec => nomatch ec)
  injection e with e; subst e
  refine hi σ _ _ _ (S.mono ok k₁) (fun u d h₂ t₂ e k₂ r₂ => ?_) fun c e' h' tk ec => nomatch ec
  injection e with e; subst e
  have rv := rmono S r₁ k₂
  simp only [Rep] at rv r₂
  obtain ⟨a, o, us, m, rfl, ha, hc, hd, hI, hl⟩ := rv
  obtain ⟨t, rfl⟩ := r₂
  have hlen : us.length = ns.length := hI.length
  have hb : us.length ≤ 2 ^ 24 := hl
  have hin : i.toNat < ns.length := (List.getElem?_eq_some_iff.mp hk).1
  obtain ⟨tk, et⟩ := intsAre_get hI hin
  have ek : ns[i.toNat] = k := (List.getElem?_eq_some_iff.mp hk).2
  have hlist : h₂.IsList a us.toArray := ⟨o, ha.1, hc, m, hd⟩
  refine tail_any (s := { s with heap := h₂, toks := t₂ }) (T := "list") ⟨o, ha.1, hc⟩ slot_list_getitem.lookup ?_ (hs _ _)
  exact wpAny_getItem_list (s := { s with heap := h₂, toks := t₂ }) hlist h0 (by omega) (x := .int k tk) (by rw [← ek]; simpa using et) (q _ _ h₂ t₂ rfl (k₁.trans k₂) (by simp only [Rep]; exact ⟨tk, rfl⟩))
end
theorem bits64 : ∀ j : Nat, j < 64 → Builtin.Int.intBits (j : Int) ≤ 64 := by decide +kernel
def drawL (ns : List Int) (i : Nat) : Int := if decide ((i : Int) < (ns.length : Int)) = true then (ns.getD i 0).fmod (256 ^ 256) else 97 * i * i + 61 * i + 30
section
variable {prog : Program} {w : World} {H0 : Heap} {p : Program} {loose : List Str} {mg mb : Str → Option Value}
theorem fn_draw {ns : List Int} {i : Nat} (hi : i < 64) : Fn (gi prog w H0 p loose mg mb) 1 (.ref 432) [.scr ns, .int i] (.ok (.int (drawL ns i))) := by
  refine Fn.intro (n := 0) (names := ["script", "i"]) (loc := []) (xs := []) (dx := []) (by rfl) (by kernel_rfl) (fun vs s hv _ => bind2 (fun v u => by rfl) vs s hv) (fun _ _ => by simp only [RepL]) (by decide +kernel) rfl (by decide +kernel) (by decide +kernel) ?_
  rintro ⟨⟨sc, lo, gl, ce, qu, fu, co, fr, bu⟩, A, st, ou, hE, xs', ys'⟩ ok hs hx hy hc
  dsimp only at hs hx hy hc
  subst hs hx hy hc
  refine Ex.ifR ok (Te.cmp ok (Ev.name ok 1 rfl rfl) (Ev.callB ok rfl gv_len kept_builtin (Evs.cons ok (Ev.name ok 0 rfl rfl) Evs.nil rfl) Bi.lenScr) Op2.lt) (fun h => ?_) (fun h => ?_)
  · unfold drawL; rw [if_pos h]
    have hl : i < ns.length := by simp at h; exact h
    refine Ex.retN ok (Ev.bin ok (Ev.subScr ok (Ev.name ok 0 rfl rfl) (Ev.name ok 1 rfl rfl) (by omega) (k := ns.getD i 0) (by simp [hl])) (Ev.bin ok Ev.cint Ev.cint (Op2.pow (by decide) (by decide +kernel))) (Op2.mod (by decide +kernel))) retO
  · unfold drawL; rw [if_neg (by simp only [h]; decide)]
    refine Ex.retV ok (Ev.bin ok (Ev.bin ok (Ev.bin ok (Ev.bin ok Ev.cint (Ev.name ok 1 rfl rfl) (Op2.mul ?_)) (Ev.name ok 1 rfl rfl) (Op2.mul ?_)) (Ev.bin ok Ev.cint (Ev.name ok 1 rfl rfl) (Op2.mul ?_)) Op2.add) Ev.cint Op2.add)
    · exact IntMulOk.of_left (by decide +kernel)
    · exact IntMulOk.of_right (bits64 i hi)
    · exact IntMulOk.of_left (by decide +kernel)
end
def okLen (b : List UInt8) : Bool := decide ((1 : Int) ≤ (b.length : Int)) && decide ((b.length : Int) ≤ 63)
def lawfulB (ls : List (List UInt8)) : Bool := if ((slc ls none (some (-1))).all okLen) = true then decide (wire ls ≤ 255) && (decide ((ls.length : Int) = 0) || decide (((ls.getLastD []).length : Int) ≤ 63)) else false
section
variable {prog : Program} {w : World} {H0 : Heap} {p : Program} {loose : List Str} {mg mb : Str → Option Value}
theorem fn_capital {ls : List (List UInt8)} (hz : ls.length ≤ 1000) (hb : ∀ b ∈ ls, b.length ≤ 1000) : Fn (gi prog w H0 p loose mg mb) 1 (.ref 456) [.list (ls.map .bytes)] (.ok (.list ((ls.map bup).map .bytes))) := by
  refine Fn.intro (n := 0) (names := ["labels"]) (loc := []) (xs := []) (dx := []) (by rfl) (by kernel_rfl) (fun vs s hv _ => bind1 (fun v => by rfl) vs s hv) (fun _ _ => by simp only [RepL]) (by decide +kernel) rfl (by decide +kernel) (by decide +kernel) ?_
  rintro ⟨⟨sc, lo, gl, ce, qu, fu, co, fr, bu⟩, A, st, ou, hE, xs, ys⟩ ok hs hx hy hc
  dsimp only at hs hx hy hc
  subst hs hx hy hc
  refine Ex.retV ok (Ev.comp ok (CompOk.plain ⟨by decide +kernel, by rfl, by decide +kernel, by rfl, by decide +kernel, by decide +kernel, fun y hy => nomatch hy⟩ (by decide +kernel) (ItSrc.list ok (Ev.name ok 0 rfl rfl)) (by simp; exact small_line hz) (by simp) ?_))
  intro k d e hd he
  obtain ⟨b, hbk, rfl⟩ := bytes_at hd
  have : e = .bytes (bup b) := by
    simp only [List.map_map, List.getElem?_map, hbk] at he; simp at he; exact he.symm
  subst this
  have hbl := hb b (List.mem_of_getElem? hbk)
  rintro ⟨⟨sc, lo, gl, ce, qu, fu, co, fr, bu⟩, A, st, ou, hE, xs, ys⟩ ok' hs hx hy
  dsimp only at hs hx hy
  subst hs hx hy
  unfold bup
  refine Ev.callB ok' rfl gv_bytes kept_type (Evs.cons ok' (Ev.comp (es := (b.map capI).map .int) ok' (CompOk.plain ⟨by decide +kernel, by rfl, by decide +kernel, by rfl, by decide +kernel, by decide +kernel, fun y hy => nomatch hy⟩ (by decide +kernel) (ItSrc.bytes ok' (Ev.name ok' 0 rfl rfl)) (by simp [vbytes]; exact small_line hbl) (by simp [vbytes]) ?_)) Evs.nil rfl) (Bi.bytesL fun i hi => ?_)
  · intro k d e hd he
    obtain ⟨c, hc, rfl⟩ := vb_at hd
    have : e = .int (capI c) := by
      simp only [List.map_map, List.getElem?_map, hc] at he; simp at he; exact he.symm
    subst this
    rintro ⟨⟨sc, lo, gl, ce, qu, fu, co, fr, bu⟩, A, st, ou, hE, xs, ys⟩ ok'' hs hx hy
    dsimp only at hs hx hy
    subst hs hx hy
    have e : V.int (capI c) = if (decide ((97 : Int) ≤ (c.toNat : Int)) && decide ((c.toNat : Int) ≤ 122)) = true then V.int ((c.toNat : Int) - 32) else V.int c.toNat := by unfold capI; split <;> rfl
    rw [e]
    exact Ev.iteOk ok'' (Te.chain ok'' Ev.cint (Ev.name ok'' 0 rfl rfl) (fun _ => Ev.cint) Op2.le fun _ => Op2.le) (fun _ => Ev.bin ok'' (Ev.name ok'' 0 rfl rfl) Ev.cint Op2.sub) (fun _ => Ev.name ok'' 0 rfl rfl)
  · obtain ⟨c, _, rfl⟩ := List.mem_map.mp hi
    exact capI_lt c
theorem fn_lawful {ls : List (List UInt8)} : Fn (gi prog w H0 p loose mg mb) 2 (.ref 463) [.list (ls.map .bytes)] (.ok (.bool (lawfulB ls))) := by
  refine Fn.intro (n := 1) (names := ["labels"]) (loc := ["label"]) (xs := []) (dx := []) (by rfl) (by kernel_rfl) (fun vs s hv _ => bind1 (fun v => by rfl) vs s hv) (fun _ _ => by simp only [RepL]) (by decide +kernel) rfl (by decide +kernel) (by decide +kernel) ?_
  rintro ⟨⟨sc, lo, gl, ce, qu, fu, co, fr, bu⟩, A, st, ou, hE, xs', ys'⟩ ok hs hx hy hc
  dsimp only at hs hx hy hc
  subst hs hx hy hc
  have hsl : slc (ls.map V.bytes) none (some (-1)) = (slc ls none (some (-1))).map V.bytes := slc_map _ _ _ _
  refine Ex.seq (O₁ := fun o => NoN (RetO (.ok (.bool (lawfulB ls)))) o ∨ (o = .next [some (.sh (.list (ls.map .bytes))), none] ∧ (slc ls none (some (-1))).all okLen = true))
    (Ex.for (τ := Unit) ok 1 rfl (ItSrc.list (ds := (slc ls none (some (-1))).map V.bytes) ok (hsl ▸ Ev.sliceList ok (Ev.name ok 0 rfl rfl) EvP.no (EvP.at (Ev.neg Ev.cint)))) (fun _ => [some (.sh (.list (ls.map .bytes))), none]) (fun k _ => ((slc ls none (some (-1))).take k).all okLen = true) () (.keep (.keep .nil)) (by simp) ?turn ?done) ?rest ?out
  case done =>
    intro t hJ
    refine .inr ⟨rfl, ?_⟩
    simpa using hJ
  case out =>
    intro o h hn
    rcases h with h | ⟨rfl, _⟩
    · exact h.1
    · exact (hn _ rfl).elim
  case turn =>
    intro k t d hd hJ
    obtain ⟨b, hb, rfl⟩ := bytes_at hd
    refine Ex.ifR ok (c := !okLen b) (Te.not (Te.chain ok Ev.cint (Ev.callB ok rfl gv_len kept_builtin (Evs.cons ok (Ev.name ok 1 rfl rfl) Evs.nil rfl) Bi.lenBytes) (fun _ => Ev.cint) Op2.le fun _ => Op2.le)) (fun h => ?_) (fun h => ?_)
    · have hf : lawfulB ls = false := by
        unfold lawfulB
        rw [if_neg]
        intro hall
        rw [List.all_eq_true] at hall
        have := hall b (List.mem_of_getElem? hb)
        rw [this] at h; cases h
      rw [hf]
      exact Ex.retN ok Ev.cbool (.inl ⟨retO, fun _ h => nomatch h⟩)
    · refine Ex.nil ⟨(), ?_, .keep (.drop .nil)⟩
      rw [List.take_add_one, hb]
      have : okLen b = true := by simpa using h
      simp [hJ, this]
  case rest =>
    rintro ρ' (h | ⟨h, hall⟩)
    · exact (h.2 _ rfl).elim
    injection h with h; subst h
    unfold lawfulB
    rw [if_pos hall]
    refine Ex.retV ok (Ev.boolop (BAll.and_cons ok (Ev.cmp ok (Ev.call ok rfl gv_wire (.inr (by kernel_rfl)) (by decide) (Evs.cons ok (Ev.name ok 0 rfl rfl) Evs.nil rfl) fn_wire) Ev.cint Op2.le) fun h => BAll.one (Ev.boolop (BAll.or_cons ok ?_ fun h => BAll.one ?_))))
    · have e1 : decide ((ls.length : Int) = 0) = decide (((ls.map V.bytes).length : Int) = 0) := by simp
      rw [e1]
      exact Ev.cmp ok (Ev.callB ok rfl gv_len kept_builtin (Evs.cons ok (Ev.name ok 0 rfl rfl) Evs.nil rfl) Bi.lenList) Ev.cint Op2.eq
    · have hl : 0 < ls.length := by simp at h; cases ls with | nil => simp at h | cons _ _ => simp
      exact Ev.cmp ok (Ev.callB ok rfl gv_len kept_builtin (Evs.cons ok (Ev.sub ok (Ev.name ok 0 rfl rfl) (Ev.neg Ev.cint) (.inl rfl) (Op2.itemList (last_at hl) (by simp; omega))) Evs.nil rfl) Bi.lenBytes) Ev.cint Op2.le
end
def poolL : List (List Int) := [[97], [98], [97, 98], [42], [97, 0], [90], [122], [91], [64], [255]]
def poolV : V := .tup (poolL.map fun l => .tup (l.map .int))
section
variable {prog : Program} {w : World} {H0 : Heap} {p : Program} {loose : List Str} {mg mb : Str → Option Value}
theorem pool_rep : ∃ v, nsIn (gi prog w H0 p loose mg mb).K mainGlobals "_LAW_LABELS" = some (some v) ∧ KRep (gi prog w H0 p loose mg mb).K poolV v := by
  refine ⟨_, by rfl, ?_⟩
  simp only [poolV, poolL, List.map_cons, List.map_nil, KRep, KRepL]
  repeat' (first | rfl | (refine ⟨_, ?_⟩) | (refine ⟨?_, ?_⟩) | (simp [sizeLine]; done))
end
def pick (y : Int) : List UInt8 := bytesOf (poolL.getD (y.fmod 10).toNat [])
def bints (b : List UInt8) : List Int := b.map fun c => (c.toNat : Int)
def bumpI (b : List UInt8) : List Int := (bints b).set (b.length - 1) ((((b.getD (b.length - 1) 0).toNat : Int) + 1).fmod 256)
def bump (b : List UInt8) : List UInt8 := bytesOf (bumpI b)
def hdL (base : List (List UInt8)) : List UInt8 := base.headD []
def hasHead (base : List (List UInt8)) : Bool := decide ((0 : Int) < (base.length : Int)) && !decide (hdL base = [])
def turnW (x : Int) (base : List (List UInt8)) : List (List UInt8) :=
  if x.fmod 8 = 0 then base.map bup
  else if x.fmod 8 = 1 then pick (x.fdiv 8) :: base
  else if x.fmod 8 = 2 then slc base (some 1) none
  else if x.fmod 8 = 3 then (if absL base = true then slc base none (some (-1)) else base ++ [[]])
  else if (decide (x.fmod 8 = 4) && hasHead base) = true then bump (hdL base) :: slc base (some 1) none
  else if (decide (x.fmod 8 = 5) && hasHead base) = true then (hdL base ++ bytesOf [(x.fdiv 8).fmod 256]) :: slc base (some 1) none
  else if (decide (x.fmod 8 = 6) && decide ((1 : Int) < (base.length : Int))) = true then slc base none (some (-2)) ++ [pick (x.fdiv 8)] ++ slc base (some (-1)) none
  else base
def turnL (x : Int) (base : List (List UInt8)) : List (List UInt8) := if lawfulB (turnW x base) = true then turnW x base else base
theorem ints_map (b : List UInt8) : vbytes b = (bints b).map .int := by unfold vbytes bints; rw [List.map_map]; rfl
theorem poolL_mem {y : Int} {k : Int} (h : k ∈ poolL.getD (y.fmod 10).toNat []) : 0 ≤ k ∧ k < 256 := by
  have h1 : ∀ j : Nat, j < 10 → ∀ k ∈ poolL.getD j [], 0 ≤ k ∧ k < 256 := by decide
  have h2 := Int.fmod_nonneg_of_pos y (b := 10) (by decide)
  have h3 := Int.fmod_lt_of_pos y (b := 10) (by decide)
  exact h1 _ (by omega) k h
section
variable {prog : Program} {w : World} {H0 : Heap} {p : Program} {loose : List Str} {mg mb : Str → Option Value}
theorem gv_capital : GV (gi prog w H0 p loose mg mb) "_law_capital" (.ref 456) := GV.glob (by kernel_rfl) (by rfl)
theorem gv_lawful : GV (gi prog w H0 p loose mg mb) "_law_lawful" (.ref 463) := GV.glob (by kernel_rfl) (by rfl)
theorem pool_at {y : Int} {f : Fm} {n : Nat} : (poolL.map fun l => V.tup (l.map .int))[vidx (poolL.map fun l => V.tup (l.map .int)).length (y.fmod 10)]? = some (V.tup ((poolL.getD (y.fmod 10).toNat []).map .int)) := by
  have h2 := Int.fmod_nonneg_of_pos y (b := 10) (by decide)
  have h3 := Int.fmod_lt_of_pos y (b := 10) (by decide)
  unfold vidx
  rw [if_neg (by omega)]
  have h1 : ∀ j : Nat, j < 10 → poolL[j]? = some (poolL.getD j []) := by decide
  rw [List.getElem?_map, h1 _ (by omega)]; rfl
section
variable {f : Fm} {n : Nat} {ρ : En}
theorem Ev.pool {e : Expr} {np p1 p2 : Pos} {kk : Nat} {p3 : Pos} {y : Int} (ok : FmOk (gi prog w H0 p loose mg mb) f n) (hx : f.env.kindOf "_LAW_LABELS" = some .globalImplicit) (he : Ev (gi prog w H0 p loose mg mb) f ρ e (.ok (.int y))) :
    Ev (gi prog w H0 p loose mg mb) f ρ (.Subscript (.Name "_LAW_LABELS" np) (.BinOp e .Mod (.Constant (.int 10) kk p3) p1) p2) (.ok (.tup ((poolL.getD (y.fmod 10).toNat []).map .int))) := by
  obtain ⟨v, e1, e2⟩ := pool_rep (prog := prog) (w := w) (H0 := H0) (p := p) (loose := loose) (mg := mg) (mb := mb)
  have h2 := Int.fmod_nonneg_of_pos y (b := 10) (by decide)
  exact Ev.sub ok (Ev.glob ok hx (GV.glob e1 (by rfl)) e2) (Ev.bin ok he Ev.cint (Op2.mod (by decide))) (.inr (.inl rfl)) (Op2.itemTup (pool_at (f := f) (n := n)) (by simp; omega))
theorem Ev.pick {e : Expr} {np p1 p2 bp cp : Pos} {kk : Nat} {p3 : Pos} {y : Int} (ok : FmOk (gi prog w H0 p loose mg mb) f n) (hx : f.env.kindOf "_LAW_LABELS" = some .globalImplicit) (hb : f.env.kindOf "bytes" = some .globalImplicit) (he : Ev (gi prog w H0 p loose mg mb) f ρ e (.ok (.int y)))
    (hh : starEach [(.Subscript (.Name "_LAW_LABELS" np) (.BinOp e .Mod (.Constant (.int 10) kk p3) p1) p2)] f.env = (false, eval (.Subscript (.Name "_LAW_LABELS" np) (.BinOp e .Mod (.Constant (.int 10) kk p3) p1) p2) f.env) :: starEach [] f.env := by rfl) :
    Ev (gi prog w H0 p loose mg mb) f ρ (.Call (.Name "bytes" bp) [(.Subscript (.Name "_LAW_LABELS" np) (.BinOp e .Mod (.Constant (.int 10) kk p3) p1) p2)] [] cp) (.ok (.bytes (Mine.pick y))) :=
  Ev.callB ok hb gv_bytes kept_type (Evs.cons ok (Ev.pool ok hx he) Evs.nil hh) (Bi.bytesT fun k hk => poolL_mem hk) hh
end
theorem fn_turn {x : Int} {base : List (List UInt8)} (hz : base.length ≤ 400) (hb : ∀ b ∈ base, b.length ≤ 500) : Fn (gi prog w H0 p loose mg mb) 3 (.ref 468) [.int x, .list (base.map .bytes)] (.ok (.list ((turnL x base).map .bytes))) := by
  refine Fn.intro (n := 2) (names := ["x", "base"]) (loc := ["kind", "wanted", "octets"]) (xs := []) (dx := []) (by rfl) (by kernel_rfl) (fun vs s hv _ => bind2 (fun v u => by rfl) vs s hv) (fun _ _ => by simp only [RepL]) (by decide +kernel) rfl (by decide +kernel) (by decide +kernel) ?_
  rintro ⟨⟨sc, lo, gl, ce, qu, fu, co, fr, bu⟩, A, st, ou, hE, xs', ys'⟩ ok hs hx hy hc
  dsimp only at hs hx hy hc
  subst hs hx hy hc
  have hzb : (base.map V.bytes).length ≤ 400 := by simpa using hz
  refine Ex.assign ok 2 rfl (Ev.bin ok (Ev.name ok 0 rfl rfl) Ev.cint (Op2.mod (by decide))) ?_
  refine Ex.aug ok 0 rfl rfl Ev.cint (Op2.ifdiv (by decide) (by decide +kernel)) ?_
  refine Ex.assign ok 3 rfl (Ev.name ok 1 rfl rfl) ?_
  let R : En := [some (.sh (.int (x.fdiv 8))), some (.sh (.list (base.map .bytes))), some (.sh (.int (x.fmod 8))), some (.sh (.list ((turnW x base).map .bytes))), none]
  have hslc1 : slc (base.map V.bytes) (some 1) none = (slc base (some 1) none).map V.bytes := slc_map _ _ _ _
  have hsl : (slc base (some 1) none).length ≤ 400 := Nat.le_trans (slc_length_le _ _ _) hz
  have hhead : hasHead base = (decide ((0 : Int) < ((base.map V.bytes).length : Int)) && !V.eqv (.bytes (hdL base)) (.bytes [])) := by
    unfold hasHead; simp only [V.eqv, List.length_map]
    cases h : hdL base <;> simp [h]
  have hat0 : 0 < base.length → (base.map V.bytes)[vidx (base.map V.bytes).length 0]? = some (.bytes (hdL base)) := by
    intro h; cases base with
    | nil => simp at h
    | cons a r => simp [vidx, hdL]
  have hbl : (hdL base).length ≤ 500 := by
    cases base with
    | nil => simp [hdL]
    | cons a r => exact hb a (by simp)
  refine Ex.seq (O₁ := fun o => o = .next R) ?chain ?rest (fun o h hn => (hn _ h).elim)
  case rest =>
    intro ρ' h; injection h with h; subst h
    refine Ex.ifR ok (Te.val (Ev.call ok rfl gv_lawful (.inr (by kernel_rfl)) (by decide) (Evs.cons ok (Ev.name ok 3 rfl rfl) Evs.nil rfl) fn_lawful)) (fun h => ?_) (fun h => ?_)
    · unfold turnL; rw [if_pos h]
      exact Ex.retN ok (Ev.name ok 3 rfl rfl) retO
    · unfold turnL; rw [if_neg (by simp [h])]
      exact Ex.retV ok (Ev.name ok 1 rfl rfl)
  case chain =>
  refine Ex.ite ok (Te.cmp ok (Ev.name ok 2 rfl rfl) Ev.cint Op2.eq) (fun h0 => ?_) (fun h0 => ?_)
  · have e : turnW x base = base.map bup := by unfold turnW; rw [if_pos (by simpa using h0)]
    refine Ex.assign ok 3 rfl (Ev.call ok rfl gv_capital (.inr (by kernel_rfl)) (by decide) (Evs.cons ok (Ev.name ok 1 rfl rfl) Evs.nil rfl) (fn_capital (by omega) (fun b h => Nat.le_trans (hb b h) (by decide)))) (Ex.nil ?_)
    simp only [R, e]; rfl
  have h0' : ¬ x.fmod 8 = 0 := by simpa using h0
  refine Ex.ite ok (Te.cmp ok (Ev.name ok 2 rfl rfl) Ev.cint Op2.eq) (fun h1 => ?_) (fun h1 => ?_)
  · have e : turnW x base = [Mine.pick (x.fdiv 8)] ++ base := by unfold turnW; rw [if_neg h0', if_pos (by simpa using h1)]; rfl
    refine Ex.assign ok 3 rfl (Ev.bin ok (Ev.listD (ds := [.bytes (Mine.pick (x.fdiv 8))]) ok (Evs.cons ok (Ev.pick ok rfl rfl (Ev.name ok 0 rfl rfl)) Evs.nil rfl) (by simp)) (Ev.name ok 1 rfl rfl) (Op2.addL (by simp only [List.length_cons, List.length_nil]; exact small_line (by omega)))) (Ex.nil ?_)
    simp only [R, e]; rfl
  have h1' : ¬ x.fmod 8 = 1 := by simpa using h1
  refine Ex.ite ok (Te.cmp ok (Ev.name ok 2 rfl rfl) Ev.cint Op2.eq) (fun h2 => ?_) (fun h2 => ?_)
  · have e : turnW x base = slc base (some 1) none := by unfold turnW; rw [if_neg h0', if_neg h1', if_pos (by simpa using h2)]
    refine Ex.assign ok 3 rfl (Ev.sliceList ok (Ev.name ok 1 rfl rfl) (EvP.at Ev.cint) EvP.no) (Ex.nil ?_)
    simp only [R, e, hslc1]; rfl
  have h2' : ¬ x.fmod 8 = 2 := by simpa using h2
  refine Ex.ite ok (Te.cmp ok (Ev.name ok 2 rfl rfl) Ev.cint Op2.eq) (fun h3 => ?_) (fun h3 => ?_)
  · have e : turnW x base = if absL base = true then slc base none (some (-1)) else base ++ [[]] := by unfold turnW; rw [if_neg h0', if_neg h1', if_neg h2', if_pos (by simpa using h3)]
    refine Ex.assign ok 3 rfl (Ev.iteOk ok (Te.val (Ev.call ok rfl gv_absolute (.inr (by kernel_rfl)) (by decide) (Evs.cons ok (Ev.name ok 1 rfl rfl) Evs.nil rfl) fn_absolute)) (fun h => Ev.sliceList ok (Ev.name ok 1 rfl rfl) EvP.no (EvP.at (Ev.neg Ev.cint)))
      (fun h => Ev.bin ok (Ev.name ok 1 rfl rfl) (Ev.listD (ds := [.bytes []]) ok (Evs.cons ok (Ev.cbytes (by decide)) Evs.nil rfl) (by simp)) (Op2.addL (by simp only [List.length_cons, List.length_nil]; exact small_line (by omega))))) (Ex.nil ?_)
    simp only [R, e]
    cases absL base
    · simp; rfl
    · simp only [if_true, slc_map]; rfl
  have h3' : ¬ x.fmod 8 = 3 := by simpa using h3
  refine Ex.ite ok (c := decide (x.fmod 8 = 4) && (decide ((0 : Int) < ((base.map V.bytes).length : Int)) && !V.eqv (.bytes (hdL base)) (.bytes []))) (Te.bool (TAll.and_cons ok (Te.cmp ok (Ev.name ok 2 rfl rfl) Ev.cint Op2.eq) fun _ => TAll.and_cons ok (Te.cmp ok (Ev.callB ok rfl gv_len kept_builtin (Evs.cons ok (Ev.name ok 1 rfl rfl) Evs.nil rfl) Bi.lenList) Ev.cint Op2.gt) fun hl => TAll.and1 ok (Te.cmp ok (Ev.sub ok (Ev.name ok 1 rfl rfl) Ev.cint (.inl rfl) (Op2.itemList (hat0 (by simpa using hl)) (by simp))) (Ev.cbytes (b := []) (by decide)) (Op2.neV 0 (by simp [V.dep]) (by decide) (by decide) rfl)))) (fun h4 => ?_) (fun h4 => ?_)
  · rw [← hhead] at h4
    have e : turnW x base = [bump (hdL base)] ++ slc base (some 1) none := by unfold turnW; rw [if_neg h0', if_neg h1', if_neg h2', if_neg h3', if_pos h4]; rfl
    have hl : 0 < base.length := by
      unfold hasHead at h4; simp at h4; exact h4.2.1
    have hl0 : 0 < (hdL base).length := by
      unfold hasHead at h4; simp at h4; exact List.length_pos_iff.mpr h4.2.2
    refine Ex.assignCompO ok 4 rfl (es := (bints (hdL base)).map .int) (CompOk.plain ⟨by decide +kernel, by rfl, by decide +kernel, by rfl, by decide +kernel, by decide +kernel, fun y hy => nomatch hy⟩ (by decide +kernel) (ItSrc.bytes (b := hdL base) ok (Ev.sub ok (Ev.name ok 1 rfl rfl) Ev.cint (.inl rfl) (Op2.itemList (hat0 hl) (by simp)))) (by simp [vbytes]; exact small_line (by omega)) (by simp [vbytes, bints]) ?_) ?_ (by rfl)
    · intro k d e hd he
      rw [← ints_map] at he
      rw [hd] at he; injection he with he; subst he
      rintro ⟨⟨sc, lo, gl, ce, qu, fu, co, fr, bu⟩, A, st, ou, hE, xs, ys⟩ ok'' hs hx hy
      dsimp only at hs hx hy
      subst hs hx hy
      exact Ev.name ok'' 0 rfl rfl
    have hvl : vidx ((bints (hdL base)).map V.int).length (-1) = (hdL base).length - 1 := by
      unfold vidx; rw [if_pos (by decide)]; simp [bints]; omega
    have hat : ((bints (hdL base)).map V.int)[vidx ((bints (hdL base)).map V.int).length (-1)]? = some (.int (((hdL base).getD ((hdL base).length - 1) 0).toNat : Int)) := by
      rw [hvl]; unfold bints
      simp only [List.map_map, List.getElem?_map]
      rw [List.getElem?_eq_getElem (by omega), List.getD_eq_getElem?_getD, List.getElem?_eq_getElem (by omega)]
      rfl
    have hlen1 : ((bints (hdL base)).map V.int).length = (hdL base).length := by simp [bints]
    refine Ex.store ok 4 rfl rfl (Ev.bin ok (Ev.bin ok (Ev.subN ok (LName.li 4 rfl rfl) (Ev.neg Ev.cint) hat (by rw [hlen1]; omega)) Ev.cint Op2.add) Ev.cint (Op2.mod (by decide))) (Ev.neg Ev.cint) (by rw [hvl, hlen1]; omega) (by rw [hlen1]; omega) ?_
    have hset : (((bints (hdL base)).map V.int).set (vidx ((bints (hdL base)).map V.int).length (-1)) (.int (((((hdL base).getD ((hdL base).length - 1) 0).toNat : Int) + 1).fmod 256))) = (bumpI (hdL base)).map .int := by
      rw [hvl]; unfold bumpI; rw [List.map_set]
    refine Ex.freeze (i := 4) (ds := (bumpI (hdL base)).map .int) ok (by rw [← hset]; rfl) ?_
    refine Ex.assign ok 3 rfl (Ev.bin ok (Ev.listD (ds := [.bytes (bump (hdL base))]) ok (Evs.cons ok (Ev.callB ok rfl gv_bytes kept_type (Evs.cons ok (Ev.name ok 4 rfl rfl) Evs.nil rfl) (Bi.bytesL fun i hi => ?_)) Evs.nil rfl) (by simp)) (Ev.sliceList ok (Ev.name ok 1 rfl rfl) (EvP.at Ev.cint) EvP.no) (Op2.addL ?_)) (Ex.weak (ρ' := R) ?_ (Ex.nil rfl))
    · unfold bumpI at hi
      rcases List.mem_or_eq_of_mem_set hi with hi | hi
      · obtain ⟨c, _, rfl⟩ := List.mem_map.mp hi
        have := UInt8.toNat_lt c; omega
      · subst hi
        exact ⟨Int.fmod_nonneg_of_pos _ (by decide), Int.fmod_lt_of_pos _ (by decide)⟩
    · rw [hslc1]; simp only [List.length_cons, List.length_nil, List.length_map]; exact small_line (by omega)
    · simp only [R, e, hslc1]
      exact .keep (.keep (.keep (.keep (.drop .nil))))
  have h4' : ¬ (decide (x.fmod 8 = 4) && hasHead base) = true := by rw [hhead]; rw [h4]; decide
  refine Ex.ite ok (c := decide (x.fmod 8 = 5) && (decide ((0 : Int) < ((base.map V.bytes).length : Int)) && !V.eqv (.bytes (hdL base)) (.bytes []))) (Te.bool (TAll.and_cons ok (Te.cmp ok (Ev.name ok 2 rfl rfl) Ev.cint Op2.eq) fun _ => TAll.and_cons ok (Te.cmp ok (Ev.callB ok rfl gv_len kept_builtin (Evs.cons ok (Ev.name ok 1 rfl rfl) Evs.nil rfl) Bi.lenList) Ev.cint Op2.gt) fun hl => TAll.and1 ok (Te.cmp ok (Ev.sub ok (Ev.name ok 1 rfl rfl) Ev.cint (.inl rfl) (Op2.itemList (hat0 (by simpa using hl)) (by simp))) (Ev.cbytes (b := []) (by decide)) (Op2.neV 0 (by simp [V.dep]) (by decide) (by decide) rfl)))) (fun h5 => ?_) (fun h5 => ?_)
  · rw [← hhead] at h5
    have e : turnW x base = [hdL base ++ bytesOf [(x.fdiv 8).fmod 256]] ++ slc base (some 1) none := by unfold turnW; rw [if_neg h0', if_neg h1', if_neg h2', if_neg h3', if_neg h4', if_pos h5]; rfl
    have hl : 0 < base.length := by
      unfold hasHead at h5; simp at h5; exact h5.2.1
    refine Ex.assign ok 3 rfl (Ev.bin ok (Ev.listD (ds := [.bytes (hdL base ++ bytesOf [(x.fdiv 8).fmod 256])]) ok (Evs.cons ok (Ev.bin ok (Ev.sub ok (Ev.name ok 1 rfl rfl) Ev.cint (.inl rfl) (Op2.itemList (hat0 hl) (by simp))) (Ev.callB ok rfl gv_bytes kept_type (Evs.cons ok (Ev.listD (ds := [.int ((x.fdiv 8).fmod 256)]) ok (Evs.cons ok (Ev.bin ok (Ev.name ok 0 rfl rfl) Ev.cint (Op2.mod (by decide))) Evs.nil rfl) (by simp)) Evs.nil rfl) (Bi.bytesL (ns := [(x.fdiv 8).fmod 256]) fun i hi => ?_)) (Op2.addB ?_)) Evs.nil rfl) (by simp)) (Ev.sliceList ok (Ev.name ok 1 rfl rfl) (EvP.at Ev.cint) EvP.no) (Op2.addL ?_)) (Ex.nil ?_)
    · simp at hi; subst hi
      exact ⟨Int.fmod_nonneg_of_pos _ (by decide), Int.fmod_lt_of_pos _ (by decide)⟩
    · simp [bytesOf] at hbl ⊢; omega
    · rw [hslc1]; simp only [List.length_cons, List.length_nil, List.length_map]; exact small_line (by omega)
    · simp only [R, e, hslc1]; rfl
  have h5' : ¬ (decide (x.fmod 8 = 5) && hasHead base) = true := by rw [hhead]; rw [h5]; decide
  refine Ex.ite ok (c := decide (x.fmod 8 = 6) && decide ((1 : Int) < ((base.map V.bytes).length : Int))) (Te.bool (TAll.and_cons ok (Te.cmp ok (Ev.name ok 2 rfl rfl) Ev.cint Op2.eq) fun _ => TAll.and1 ok (Te.cmp ok (Ev.callB ok rfl gv_len kept_builtin (Evs.cons ok (Ev.name ok 1 rfl rfl) Evs.nil rfl) Bi.lenList) Ev.cint Op2.gt))) (fun h6 => ?_) (fun h6 => ?_)
  · rw [List.length_map] at h6
    have e : turnW x base = slc base none (some (-2)) ++ [Mine.pick (x.fdiv 8)] ++ slc base (some (-1)) none := by unfold turnW; rw [if_neg h0', if_neg h1', if_neg h2', if_neg h3', if_neg h4', if_neg h5', if_pos h6]
    have l1 := slc_length_le base none (some (-2))
    have l2 := slc_length_le base (some (-1)) none
    have s1 : slc (base.map V.bytes) none (some (-2)) = (slc base none (some (-2))).map V.bytes := slc_map _ _ _ _
    have s2 : slc (base.map V.bytes) (some (-1)) none = (slc base (some (-1)) none).map V.bytes := slc_map _ _ _ _
    refine Ex.assign ok 3 rfl (Ev.bin ok (Ev.bin ok (Ev.sliceList ok (Ev.name ok 1 rfl rfl) EvP.no (EvP.at (Ev.neg Ev.cint))) (Ev.listD (ds := [.bytes (Mine.pick (x.fdiv 8))]) ok (Evs.cons ok (Ev.pick ok rfl rfl (Ev.name ok 0 rfl rfl)) Evs.nil rfl) (by simp)) (Op2.addL ?_)) (Ev.sliceList ok (Ev.name ok 1 rfl rfl) (EvP.at (Ev.neg Ev.cint)) EvP.no) (Op2.addL ?_)) (Ex.nil ?_)
    · rw [s1]; simp only [List.length_cons, List.length_nil, List.length_map]; exact small_line (by omega)
    · rw [s1, s2]; simp only [List.length_append, List.length_cons, List.length_nil, List.length_map]; exact small_line (by omega)
    · simp only [R, e, s1, s2, List.map_append]; rfl
  · rw [List.length_map] at h6
    have e : turnW x base = base := by unfold turnW; rw [if_neg h0', if_neg h1', if_neg h2', if_neg h3', if_neg h4', if_neg h5', if_neg (by simp [h6])]
    refine Ex.nil ?_
    simp only [R, e]; rfl
end
def octI (y : Int) (n : Nat) : List Int := (List.range n).map fun h => (y.fdiv (256 ^ h)).fmod 256
structure NSt where
  ls : List (List UInt8)
  u : Int
  x : Int
def fill3 : Nat → NSt → NSt
  | 0, t => t
  | k + 1, t => if (decide (t.x.fmod 64 = 0) || decide (255 < t.u + t.x.fmod 64 + 1)) = true then ⟨t.ls, t.u, t.x.fdiv 64⟩
    else fill3 k ⟨bytesOf (octI (t.x.fdiv 64) (t.x.fmod 64).toNat) :: t.ls, t.u + (t.x.fmod 64 + 1), (t.x.fdiv 64).fdiv (256 ^ (t.x.fmod 64).toNat)⟩
def octP (kind x : Int) : List Int := if kind = 1 then poolL.getD (x.fmod 10).toNat [] ++ List.replicate (58 + (x.fdiv 10).fmod 6 - ((poolL.getD (x.fmod 10).toNat []).length : Int)).toNat 120 else poolL.getD (x.fmod 10).toNat []
def nextP (kind x : Int) : Int := if kind = 1 then (x.fdiv 10).fdiv 6 else x.fdiv 10
def stepP (kind : Int) (t : NSt) : NSt := if t.u + (octP kind t.x).length + 1 ≤ 255 then ⟨bytesOf (octP kind t.x) :: t.ls, t.u + ((octP kind t.x).length + 1), nextP kind t.x⟩ else ⟨t.ls, t.u, nextP kind t.x⟩
def fillP (kind : Int) : Nat → NSt → NSt
  | 0, t => t
  | k + 1, t => stepP kind (fillP kind k t)
def startN (x : Int) : NSt := if x.fmod 2 = 1 then ⟨[[]], 1, x.fdiv 2⟩ else ⟨[], 0, x.fdiv 2⟩
def nameL (v : Int) (earlier : List (List (List UInt8))) : List (List UInt8) :=
  if (decide (v.fmod 4 = 2) && decide ((0 : Int) < (earlier.length : Int))) = true then turnL ((v.fdiv 4).fdiv earlier.length) (earlier.getD ((v.fdiv 4).fmod earlier.length).toNat [])
  else if v.fmod 4 = 3 then (fill3 6 (startN (v.fdiv 4))).ls
  else (fillP (v.fmod 4) ((startN (v.fdiv 4)).x.fmod 5).toNat ⟨(startN (v.fdiv 4)).ls, (startN (v.fdiv 4)).u, (startN (v.fdiv 4)).x.fdiv 5⟩).ls
theorem octI_mem {y : Int} {n : Nat} {k : Int} (h : k ∈ octI y n) : 0 ≤ k ∧ k < 256 := by
  unfold octI at h
  obtain ⟨i, _, rfl⟩ := List.mem_map.mp h
  exact ⟨Int.fmod_nonneg_of_pos _ (by decide), Int.fmod_lt_of_pos _ (by decide)⟩
theorem octP_mem {kind x k : Int} (h : k ∈ octP kind x) : 0 ≤ k ∧ k < 256 := by
  unfold octP at h
  split at h
  · rcases List.mem_append.mp h with h | h
    · exact poolL_mem h
    · rw [List.mem_replicate] at h; rw [h.2]; decide
  · exact poolL_mem h
theorem poolL_len (y : Int) : (poolL.getD (y.fmod 10).toNat []).length ≤ 2 := by
  have h1 : ∀ j : Nat, j < 10 → (poolL.getD j []).length ≤ 2 := by decide
  have h2 := Int.fmod_nonneg_of_pos y (b := 10) (by decide)
  have h3 := Int.fmod_lt_of_pos y (b := 10) (by decide)
  exact h1 _ (by omega)
theorem octP_len (kind x : Int) : (octP kind x).length ≤ 70 := by
  unfold octP
  have := poolL_len x
  have h3 := Int.fmod_lt_of_pos (x.fdiv 10) (b := 6) (by decide)
  split
  · rw [List.length_append, List.length_replicate]; omega
  · omega
theorem pow_log (h : Nat) (hh : h < 64) : ((256 : Int) ^ h).natAbs.log2 < 9000 := by
  have : ∀ h : Nat, h < 64 → ((256 : Int) ^ h).natAbs.log2 < 9000 := by decide +kernel
  exact this h hh
theorem pow_ne (h : Nat) : ((256 : Int) ^ h) ≠ 0 := Int.pow_ne_zero (by decide)
section
variable {prog : Program} {w : World} {H0 : Heap} {p : Program} {loose : List Str} {mg mb : Str → Option Value}
theorem gv_turn : GV (gi prog w H0 p loose mg mb) "_law_turn" (.ref 468) := GV.glob (by kernel_rfl) (by rfl)
theorem fn_lname {v : Int} {earlier : List (List (List UInt8))} (hel : earlier.length ≤ 60) (hE : ∀ b ∈ earlier, b.length ≤ 400 ∧ ∀ l ∈ b, l.length ≤ 500) :
    FnA (gi prog w H0 p loose mg mb) 4 (.ref 473) [.sh (.int v), .bo (earlier.map fun b => V.list (b.map .bytes))] (.ok (.list ((nameL v earlier).map .bytes))) := by
  refine FnA.introC (n := 3) (names := ["v", "earlier"]) (loc := ["kind", "labels", "used", "turn", "n", "k", "j", "octets"]) (y := "x") (by rfl) (by kernel_rfl) (fun vs hv => ?bind) (by decide +kernel) rfl (by decide +kernel) (by decide +kernel) (by decide +kernel) (fun k => ⟨_, by rfl⟩) ?_
  case bind =>
    match vs, hv with
    | [a, b], _ => rfl
  rintro ⟨⟨sc, lo, gl, ce, qu, fu, co, fr, bu⟩, A, st, ou, hE', xs', ys'⟩ ok hs hx hy hc
  dsimp only at hs hx hy hc
  subst hs hx hy
  refine Ex.assign ok 2 rfl (Ev.bin ok (Ev.name ok 0 rfl rfl) Ev.cint (Op2.mod (by decide))) ?_
  refine Ex.assignC ok 10 rfl (.head _) rfl (Ev.bin ok (Ev.name ok 0 rfl rfl) Ev.cint (Op2.fdiv (by decide) (by decide +kernel))) ?_
  generalize hX : v.fdiv 4 = x
  generalize hK : v.fmod 4 = kind
  have hed : (earlier.map fun b => V.list (b.map .bytes)).length = earlier.length := List.length_map ..
  have mem : ("x" : Str) ∈ [("x" : Str)] := .head _
  refine Ex.ifR ok (c := decide (kind = 2) && decide ((0 : Int) < ((earlier.map fun b => V.list (b.map .bytes)).length : Int))) (Te.bool (TAll.and_cons ok (Te.cmp ok (Ev.name ok 2 rfl rfl) Ev.cint Op2.eq) fun _ => TAll.and1 ok (Te.cmp ok (Ev.lenN ok rfl gv_len (LName.bo 1 rfl rfl)) Ev.cint Op2.gt))) (fun h => ?_) (fun h => ?_)
  · rw [hed] at h
    have e : nameL v earlier = turnL (x.fdiv earlier.length) (earlier.getD (x.fmod earlier.length).toNat []) := by unfold nameL; rw [hK, hX, if_pos h]
    have hpos : 0 < earlier.length := by simp at h; exact h.2
    have hne : (((earlier.map fun b => V.list (b.map .bytes)).length : Int)) ≠ 0 := by rw [hed]; omega
    have hlg : (((earlier.map fun b => V.list (b.map .bytes)).length : Int)).natAbs.log2 < 9000 := by
      rw [hed]
      have : ∀ j : Nat, j ≤ 60 → (j : Int).natAbs.log2 < 9000 := by decide +kernel
      exact this _ hel
    have m0 := Int.fmod_nonneg_of_pos x (b := (earlier.length : Int)) (by omega)
    have m1 := Int.fmod_lt_of_pos x (b := (earlier.length : Int)) (by omega)
    have hi : (x.fmod earlier.length).toNat < earlier.length := by omega
    have hmem : earlier.getD (x.fmod earlier.length).toNat [] ∈ earlier := by
      rw [List.getD_eq_getElem?_getD, List.getElem?_eq_getElem hi]; exact List.getElem_mem hi
    have hh := hE _ hmem
    rw [e]
    refine Ex.retN ok (Ev.call ok rfl gv_turn (.inr (by kernel_rfl)) (Nat.le_refl 3) (Evs.cons ok (Ev.bin ok (Ev.cell ok 10 rfl mem rfl) (Ev.lenN ok rfl gv_len (LName.bo 1 rfl rfl)) (Op2.fdiv hne hlg)) (Evs.cons ok (d := .list ((earlier.getD (x.fmod earlier.length).toNat []).map .bytes)) (Ev.subN ok (LName.bo 1 rfl rfl) (Ev.bin ok (Ev.cell ok 10 rfl mem rfl) (Ev.lenN ok rfl gv_len (LName.bo 1 rfl rfl)) (Op2.mod hne)) ?_ ?_) Evs.nil rfl) rfl) ?_) retO
    · rw [hed]; unfold vidx; rw [if_neg (by omega), List.getElem?_map, List.getElem?_eq_getElem hi, List.getD_eq_getElem?_getD, List.getElem?_eq_getElem hi]; rfl
    · rw [hed]; omega
    · rw [hed]; exact fn_turn hh.1 hh.2
  rw [hed] at h
  have e : nameL v earlier = if kind = 3 then (fill3 6 (startN x)).ls else (fillP kind ((startN x).x.fmod 5).toNat ⟨(startN x).ls, (startN x).u, (startN x).x.fdiv 5⟩).ls := by unfold nameL; rw [hK, hX, if_neg (by rw [h]; decide)]
  have hl : V.list ((startN x).ls.map .bytes) = if decide (x.fmod 2 = 1) = true then .list [.bytes []] else .list [] := by
    unfold startN; by_cases q : x.fmod 2 = 1 <;> simp [q]
  have hu : (((startN x).ls.map V.bytes).length : Int) = (startN x).u := by unfold startN; split <;> rfl
  have hsx : (startN x).x = x.fdiv 2 := by unfold startN; split <;> rfl
  have hs1 : (startN x).ls.length ≤ 1 := by unfold startN; split <;> simp
  refine Ex.assign ok 3 rfl (d := V.list ((startN x).ls.map .bytes)) (hl ▸ Ev.iteOk ok (Te.cmp ok (Ev.bin ok (Ev.cell ok 10 rfl mem rfl) Ev.cint (Op2.mod (by decide))) Ev.cint Op2.eq) (fun _ => Ev.listD (ds := [.bytes []]) ok (Evs.cons ok (Ev.cbytes (by decide)) Evs.nil rfl) (by simp)) (fun _ => Ev.listD (ds := []) ok Evs.nil (by simp))) ?_
  refine Ex.assign ok 4 rfl (Ev.callB ok rfl gv_len kept_builtin (Evs.cons ok (Ev.name ok 3 rfl rfl) Evs.nil rfl) Bi.lenList) ?_
  rw [hu]
  refine Ex.augC ok 10 rfl mem rfl Ev.cint (Op2.ifdiv (by decide) (by decide +kernel)) ?_
  rw [← hsx]
  generalize startN x = t0 at e hs1
  clear hl hu hsx
  let R : NSt → En := fun t => [some (.sh (.int v)), some (.bo (earlier.map fun b => V.list (b.map .bytes))), some (.sh (.int kind)), some (.sh (.list (t.ls.map .bytes))), some (.sh (.int t.u)), none, none, none, none, none, some (.ce (some (.int t.x)))]
  let Rf : En := [none, none, none, some (.sh (.list ((nameL v earlier).map .bytes))), none, none, none, none, none, none, none]
  refine Ex.seq (O₁ := fun o => ∃ ρ', o = .next ρ' ∧ Weak ρ' Rf) ?loops ?rest (fun o h hn => let ⟨ρ', e', _⟩ := h; (hn _ e').elim)
  case rest =>
    rintro ρ' ⟨_, h, wk⟩; injection h with h; subst h
    exact Ex.weak wk (Ex.retV ok (Ev.name ok 3 rfl rfl))
  case loops =>
  refine Ex.ite ok (Te.cmp ok (Ev.name ok 2 rfl rfl) Ev.cint Op2.eq) (fun hk => ?_) (fun hk => ?_)
  · rw [if_pos (by simpa using hk)] at e
    refine Ex.for (τ := NSt) ok 5 rfl (ItSrc.range1 ok rfl gv_range Ev.cint (by decide) (by decide)) R (fun k t => fill3 (6 - k) t = fill3 6 t0 ∧ t.ls.length ≤ k + 1) t0 (.keep (.keep (.keep (.keep (.keep (.keep (.keep (.keep (.keep (.keep (.keep .nil))))))))))) ⟨rfl, by omega⟩ ?turn ?done
    case done =>
      intro t hJ
      refine ⟨_, rfl, ?_⟩
      have h6 : fill3 0 t = fill3 6 t0 := hJ.1
      have : t.ls = nameL v earlier := by rw [e, ← h6]; rfl
      simp only [R, Rf, this]
      exact .drop (.drop (.drop (.keep (.drop (.keep (.keep (.keep (.keep (.keep (.drop .nil))))))))))
    case turn =>
      intro k t d hd hJ
      obtain ⟨hJ, hln⟩ := hJ
      have hk6 : k < 6 := by have := (List.getElem?_eq_some_iff.mp hd).1; simpa [vrange] using this
      have h64 : 0 ≤ t.x.fmod 64 := Int.fmod_nonneg_of_pos _ (by decide)
      have h64' : t.x.fmod 64 < 64 := Int.fmod_lt_of_pos _ (by decide)
      obtain ⟨j, hj⟩ : ∃ j, 6 - k = j + 1 := ⟨5 - k, by omega⟩
      have hj' : 6 - (k + 1) = j := by omega
      rw [hj] at hJ
      refine Ex.assign ok 6 rfl (Ev.bin ok (Ev.cell ok 10 rfl mem rfl) Ev.cint (Op2.mod (by decide))) ?_
      refine Ex.augC ok 10 rfl mem rfl Ev.cint (Op2.ifdiv (by decide) (by decide +kernel)) ?_
      refine Ex.ifR ok (c := decide (t.x.fmod 64 = 0) || decide (255 < t.u + t.x.fmod 64 + 1)) (Te.bool (TAll.or_cons ok (Te.cmp ok (Ev.name ok 6 rfl rfl) Ev.cint Op2.eq) fun _ => TAll.or1 ok (Te.cmp ok (Ev.bin ok (Ev.bin ok (Ev.name ok 4 rfl rfl) (Ev.name ok 6 rfl rfl) Op2.add) Ev.cint Op2.add) Ev.cint Op2.gt))) (fun hb => ?_) (fun hb => ?_)
      · refine Ex.brk ⟨⟨_, rfl, ?_⟩, fun _ h => nomatch h⟩
        have : t.ls = nameL v earlier := by rw [e, ← hJ]; unfold fill3; rw [if_pos hb]
        simp only [R, Rf, this]
        exact .drop (.drop (.drop (.keep (.drop (.drop (.drop (.keep (.keep (.keep (.drop .nil))))))))))
      · have hn63 : (t.x.fmod 64).toNat < 64 := by omega
        have hnn : (((t.x.fmod 64).toNat : Nat) : Int) = t.x.fmod 64 := Int.toNat_of_nonneg h64
        refine Ex.assign ok 3 rfl (Ev.bin ok (Ev.listD (ds := [.bytes (bytesOf (octI (t.x.fdiv 64) (t.x.fmod 64).toNat))]) ok (Evs.cons ok (Ev.callB ok rfl gv_bytes kept_type (Evs.cons ok (Ev.comp (es := (octI (t.x.fdiv 64) (t.x.fmod 64).toNat).map .int) ok (CompOk.cell (y := "x") (d₀ := .int (t.x.fdiv 64)) ok 10 rfl mem rfl ⟨by decide +kernel, by rfl, by decide +kernel, by rfl, by decide +kernel, by decide +kernel, fun y hy => by cases hy with | head => rfl | tail _ h => cases h⟩ (fun c hc => ?clo) (ItSrc.range1 ok rfl gv_range (Ev.name ok 6 rfl rfl) (by omega) (by omega)) (by unfold vrange; rw [List.length_map, List.length_range]; exact small_line (Nat.le_trans (Nat.le_of_lt hn63) (by decide))) (by simp [vrange, octI]) ?elt hc)) Evs.nil rfl) (Bi.bytesL fun i hi => octI_mem hi)) Evs.nil rfl) (by simp)) (Ev.name ok 3 rfl rfl) (Op2.addL ?_)) ?_
        case clo =>
          simp [closureFor, cellOf, hc]
        case elt =>
          intro i d e' hd he
          simp only [vrange, List.getElem?_map, Option.map_eq_some_iff] at hd
          obtain ⟨i', hi, rfl⟩ := hd
          simp only [octI, List.getElem?_map, Option.map_eq_some_iff] at he
          obtain ⟨e1, ⟨i2, hi2, rfl⟩, rfl⟩ := he
          rw [hi] at hi2; injection hi2 with hi2; subst hi2
          have hir : i' < 64 := by
            have := (List.getElem?_eq_some_iff.mp hi); obtain ⟨q1, q2⟩ := this; simp at q1 q2; omega
          have hz : (0 : Int) + (i' : Int) = (i' : Int) := by omega
          rw [hz]
          rintro ⟨⟨sc, lo, gl, ce, qu, fu, co, fr, bu⟩, A, st, ou, hE, xs, ys⟩ ok'' hs hx hy
          dsimp only at hs hx hy
          subst hs hx hy
          refine Ev.bin ok'' (Ev.bin ok'' (Ev.cellB ok'' 1 rfl mem rfl) (Ev.bin ok'' Ev.cint (Ev.name ok'' 0 rfl rfl) (Op2.pow (by omega) ?_)) (Op2.fdiv (pow_ne _) (pow_log _ hir))) Ev.cint (Op2.mod (by decide))
          have : (Builtin.Int.intBits 256 : Int) ≤ 64 := by decide +kernel
          calc (Builtin.Int.intBits 256 : Int) * (i' : Int) ≤ 64 * (i' : Int) := Int.mul_le_mul_of_nonneg_right this (by omega)
            _ ≤ 2 ^ 27 := by omega
        · simp only [List.length_cons, List.length_nil, List.length_map]; exact small_line (by omega)
        refine Ex.aug ok 4 rfl rfl (Ev.bin ok (Ev.name ok 6 rfl rfl) Ev.cint Op2.add) Op2.iadd ?_
        refine Ex.augC ok 10 rfl mem rfl (Ev.bin ok Ev.cint (Ev.name ok 6 rfl rfl) (Op2.pow h64 ?_)) (Op2.ifdiv (pow_ne _) (pow_log _ hn63)) (Ex.nil ⟨⟨bytesOf (octI (t.x.fdiv 64) (t.x.fmod 64).toNat) :: t.ls, t.u + (t.x.fmod 64 + 1), (t.x.fdiv 64).fdiv (256 ^ (t.x.fmod 64).toNat)⟩, ⟨?_, ?_⟩, ?_⟩)
        · have : (Builtin.Int.intBits 256 : Int) ≤ 64 := by decide +kernel
          calc (Builtin.Int.intBits 256 : Int) * (t.x.fmod 64) ≤ 64 * (t.x.fmod 64) := Int.mul_le_mul_of_nonneg_right this h64
            _ ≤ 2 ^ 27 := by omega
        · rw [hj', ← hJ]
          conv => rhs; unfold fill3
          rw [if_neg (by simp only [hb]; decide)]
        · simp only [List.length_cons]; omega
        · exact .keep (.keep (.keep (.keep (.keep (.drop (.drop (.keep (.keep (.keep (.keep .nil))))))))))
  · rw [if_neg (by simpa using hk)] at e
    have h5 : 0 ≤ t0.x.fmod 5 := Int.fmod_nonneg_of_pos _ (by decide)
    have h5' : t0.x.fmod 5 < 5 := Int.fmod_lt_of_pos _ (by decide)
    refine Ex.assign ok 7 rfl (Ev.bin ok (Ev.cell ok 10 rfl mem rfl) Ev.cint (Op2.mod (by decide))) ?_
    refine Ex.augC ok 10 rfl mem rfl Ev.cint (Op2.ifdiv (by decide) (by decide +kernel)) ?_
    refine Ex.for (τ := NSt) ok 8 rfl (ItSrc.range1 ok rfl gv_range (Ev.name ok 7 rfl rfl) (by omega) (by omega)) R (fun k t => t = fillP kind k ⟨t0.ls, t0.u, t0.x.fdiv 5⟩ ∧ t.ls.length ≤ k + 1) ⟨t0.ls, t0.u, t0.x.fdiv 5⟩ (.keep (.keep (.keep (.keep (.keep (.keep (.keep (.drop (.keep (.keep (.keep .nil))))))))))) ⟨rfl, by simp; omega⟩ ?turn ?done
    case done =>
      intro t hJ
      refine ⟨_, rfl, ?_⟩
      have : t.ls = nameL v earlier := by rw [e, hJ.1]; simp [vrange]
      simp only [R, Rf, this]
      exact .drop (.drop (.drop (.keep (.drop (.keep (.keep (.keep (.keep (.keep (.drop .nil))))))))))
    case turn =>
      intro k t d hd hJ
      obtain ⟨hJ, hln⟩ := hJ
      have hk5 : k < 5 := by have := (List.getElem?_eq_some_iff.mp hd).1; simp [vrange] at this; omega
      have hpl := poolL_len t.x
      have hol := octP_len kind t.x
      have h6 : 0 ≤ (t.x.fdiv 10).fmod 6 := Int.fmod_nonneg_of_pos _ (by decide)
      have h6' : (t.x.fdiv 10).fmod 6 < 6 := Int.fmod_lt_of_pos _ (by decide)
      refine Ex.assignComp ok 9 rfl (es := (poolL.getD (t.x.fmod 10).toNat []).map .int) (CompOk.plain ⟨by decide +kernel, by rfl, by decide +kernel, by rfl, by decide +kernel, by decide +kernel, fun y hy => nomatch hy⟩ (by decide +kernel) (ItSrc.tup ok (Ev.pool ok rfl (Ev.cell ok 10 rfl mem rfl))) (by simp only [List.length_map]; exact small_line (by omega)) (by simp) ?_) ?_ (by rfl)
      · intro i d e' hd he
        rw [hd] at he; injection he with he; subst he
        rintro ⟨⟨sc, lo, gl, ce, qu, fu, co, fr, bu⟩, A, st, ou, hE, xs, ys⟩ ok'' hs hx hy
        dsimp only at hs hx hy
        subst hs hx hy
        exact Ev.name ok'' 0 rfl rfl
      refine Ex.augC ok 10 rfl mem rfl Ev.cint (Op2.ifdiv (by decide) (by decide +kernel)) ?_
      let R1 : List Int → Int → En := fun o x' => [some (.sh (.int v)), some (.bo (earlier.map fun b => V.list (b.map .bytes))), some (.sh (.int kind)), some (.sh (.list (t.ls.map .bytes))), some (.sh (.int t.u)), none, none, none, some (.sh d), some (.sh (.list (o.map .int))), some (.ce (some (.int x')))]
      refine Ex.ifJ ok (R1 (octP kind t.x) (nextP kind t.x)) (Te.cmp ok (Ev.name ok 2 rfl rfl) Ev.cint Op2.eq) (fun h1 => ?_) (fun h1 => ?_) ?_
      · have h1' : kind = 1 := by simpa using h1
        have eo : octP kind t.x = poolL.getD (t.x.fmod 10).toNat [] ++ List.replicate (58 + (t.x.fdiv 10).fmod 6 - ((poolL.getD (t.x.fmod 10).toNat []).length : Int)).toNat 120 := by unfold octP; rw [if_pos h1']
        have en : nextP kind t.x = (t.x.fdiv 10).fdiv 6 := by unfold nextP; rw [if_pos h1']
        have eo' : (octP kind t.x).map V.int = (poolL.getD (t.x.fmod 10).toNat []).map V.int ++ (List.replicate (58 + (t.x.fdiv 10).fmod 6 - (((poolL.getD (t.x.fmod 10).toNat []).map V.int).length : Int)).toNat [V.int 120]).flatten := by
          rw [eo, List.map_append, List.length_map]
          congr 1
          generalize (58 + (t.x.fdiv 10).fmod 6 - ((poolL.getD (t.x.fmod 10).toNat []).length : Int)).toNat = m
          induction m with
          | zero => rfl
          | succ m ih => simp only [List.replicate_succ, List.map_cons, List.flatten_cons, ih]; rfl
        simp only [R1, en, eo']
        refine Ex.assign ok 9 rfl (Ev.bin ok (Ev.name ok 9 rfl rfl) (Ev.bin ok (Ev.listD (ds := [.int 120]) ok (Evs.cons ok Ev.cint Evs.nil rfl) (by simp)) (Ev.bin ok (Ev.bin ok Ev.cint (Ev.bin ok (Ev.cell ok 10 rfl mem rfl) Ev.cint (Op2.mod (by decide))) Op2.add) (Ev.callB ok rfl gv_len kept_builtin (Evs.cons ok (Ev.name ok 9 rfl rfl) Evs.nil rfl) Bi.lenList) Op2.sub) (Op2.mulL ?_ ?_ ?_)) (Op2.addL ?_)) ?_
        · rw [List.length_map]; omega
        · rw [List.length_map]; omega
        · rw [List.length_map]; simp only [List.length_cons, List.length_nil]; omega
        · have q := congrArg List.length eo'
          rw [List.length_append, List.length_map] at q
          rw [← q]; exact small_line (by omega)
        refine Ex.augC ok 10 rfl mem rfl Ev.cint (Op2.ifdiv (by decide) (by decide +kernel)) (Ex.nil ?_)
        rfl
      · have h1' : ¬ kind = 1 := by simpa using h1
        have eo : octP kind t.x = poolL.getD (t.x.fmod 10).toNat [] := by unfold octP; rw [if_neg h1']
        have en : nextP kind t.x = t.x.fdiv 10 := by unfold nextP; rw [if_neg h1']
        simp only [R1, en, eo]
        exact Ex.nil rfl
      refine Ex.ite ok (c := decide (t.u + ((octP kind t.x).map V.int).length + 1 ≤ 255)) (Te.cmp ok (Ev.bin ok (Ev.bin ok (Ev.name ok 4 rfl rfl) (Ev.callB ok rfl gv_len kept_builtin (Evs.cons ok (Ev.name ok 9 rfl rfl) Evs.nil rfl) Bi.lenList) Op2.add) Ev.cint Op2.add) Ev.cint Op2.le) (fun h2 => ?_) (fun h2 => ?_)
      · rw [List.length_map] at h2
        have es : stepP kind t = ⟨bytesOf (octP kind t.x) :: t.ls, t.u + ((octP kind t.x).length + 1), nextP kind t.x⟩ := by unfold stepP; rw [if_pos (by simpa using h2)]
        refine Ex.assign ok 3 rfl (Ev.bin ok (Ev.listD (ds := [.bytes (bytesOf (octP kind t.x))]) ok (Evs.cons ok (Ev.callB ok rfl gv_bytes kept_type (Evs.cons ok (Ev.name ok 9 rfl rfl) Evs.nil rfl) (Bi.bytesL fun i hi => octP_mem hi)) Evs.nil rfl) (by simp)) (Ev.name ok 3 rfl rfl) (Op2.addL ?_)) ?_
        · simp only [List.length_cons, List.length_nil, List.length_map]; exact small_line (by omega)
        refine Ex.aug ok 4 rfl rfl (Ev.bin ok (Ev.callB ok rfl gv_len kept_builtin (Evs.cons ok (Ev.name ok 9 rfl rfl) Evs.nil rfl) Bi.lenList) Ev.cint Op2.add) Op2.iadd (Ex.nil ⟨stepP kind t, ⟨?_, ?_⟩, ?_⟩)
        · rw [hJ]; rfl
        · rw [es]; simp only [List.length_cons]; omega
        · rw [es]; simp only [List.length_map]
          exact .keep (.keep (.keep (.keep (.keep (.keep (.keep (.keep (.drop (.drop (.keep .nil))))))))))
      · rw [List.length_map] at h2
        have es : stepP kind t = ⟨t.ls, t.u, nextP kind t.x⟩ := by unfold stepP; rw [if_neg (by simpa using h2)]
        refine Ex.nil ⟨stepP kind t, ⟨?_, ?_⟩, ?_⟩
        · rw [hJ]; rfl
        · rw [es]; simp only; omega
        · rw [es]
          exact .keep (.keep (.keep (.keep (.keep (.keep (.keep (.keep (.drop (.drop (.keep .nil))))))))))
end
abbrev Lbl := List (List UInt8)
def rowsN (ns : List Int) : Nat → List Lbl
  | 0 => []
  | k + 1 => rowsN ns k ++ [nameL (drawL ns k) (rowsN ns k)]
theorem rowsN_len (ns : List Int) : ∀ k, (rowsN ns k).length = k
  | 0 => rfl
  | k + 1 => by simp [rowsN, rowsN_len ns k]
theorem clip_nat (n p : Nat) (h : p ≤ n) : clipAt n (p : Int) = p := by
  unfold clipAt
  split <;> omega
theorem slc_lo {α : Type} (l : List α) (p : Nat) (h : p ≤ l.length) : slc l none (some (p : Int)) = l.take p := by
  unfold slc clo chi
  simp only [clip_nat _ _ h, List.drop_zero, Nat.sub_zero]
theorem slc_hi {α : Type} (l : List α) (p : Nat) (h : p ≤ l.length) : slc l (some (p : Int)) none = l.drop p := by
  unfold slc clo chi
  simp only [clip_nat _ _ h]
  apply List.take_of_length_le; simp
theorem names_at {f : Lbl → V} {ls : List Lbl} {k : Nat} {d : V} (h : (ls.map f)[k]? = some d) : ∃ b, ls[k]? = some b ∧ d = f b := by
  simp only [List.getElem?_map, Option.map_eq_some_iff] at h
  obtain ⟨b, e, rfl⟩ := h; exact ⟨b, e, rfl⟩
theorem at_of {f : Lbl → V} {ls : List Lbl} {k : Nat} {b : Lbl} (h : ls[k]? = some b) : (ls.map f)[vidx (ls.map f).length (k : Int)]? = some (f b) := by
  have : vidx (ls.map f).length (k : Int) = k := by unfold vidx; rw [if_neg (by omega)]; simp
  rw [this, List.getElem?_map, h]; rfl
theorem vr_at {n k : Nat} {d : V} (h : (vrange 0 n)[k]? = some d) : k < n ∧ d = .int (k : Int) := by
  simp only [vrange, List.getElem?_map, Option.map_eq_some_iff] at h
  obtain ⟨i, hi, rfl⟩ := h
  obtain ⟨q1, q2⟩ := List.getElem?_eq_some_iff.mp hi
  simp at q1 q2; subst q2
  exact ⟨q1, by simp⟩
theorem slc_init {α : Type} (l : List α) : slc l none (some (-1)) = l.dropLast := by
  unfold slc clo chi
  have : clipAt l.length (-1) = l.length - 1 := by unfold clipAt; split <;> omega
  simp only [this, List.drop_zero, Nat.sub_zero]
  rw [List.dropLast_eq_take]
structure Good (ls : Lbl) : Prop where
  init : ∀ b ∈ ls.dropLast, 1 ≤ b.length ∧ b.length ≤ 63
  last : ∀ b, ls.getLast? = some b → b.length ≤ 63
  small : wire ls ≤ 255
theorem good_iff (ls : Lbl) : lawfulB ls = true ↔ Good ls := by
  unfold lawfulB
  rw [slc_init]
  have e1 : ls.dropLast.all okLen = true ↔ ∀ b ∈ ls.dropLast, 1 ≤ b.length ∧ b.length ≤ 63 := by
    rw [List.all_eq_true]
    exact forall_congr' fun b => forall_congr' fun _ => by unfold okLen; simp; omega
  have e2 : (decide ((ls.length : Int) = 0) || decide (((ls.getLastD []).length : Int) ≤ 63)) = true ↔ ∀ b, ls.getLast? = some b → b.length ≤ 63 := by
    rw [List.getLastD_eq_getLast?]
    cases q : ls.getLast? with
    | none => rw [List.getLast?_eq_none_iff] at q; subst q; simp
    | some c =>
      have : ls ≠ [] := fun e => by rw [e] at q; cases q
      have : ¬ (ls.length : Int) = 0 := by cases ls <;> simp_all <;> omega
      simp only [this, decide_false, Bool.false_or, decide_eq_true_eq, Option.getD_some]
      exact ⟨fun h b e => by injection e with e; subst e; omega, fun h => by have := h c rfl; omega⟩
  constructor
  · intro h
    split at h
    · rename_i h1
      rw [Bool.and_eq_true, e2] at h
      exact ⟨e1.mp h1, h.2, by simpa using h.1⟩
    · cases h
  · intro h
    rw [if_pos (e1.mpr h.init), Bool.and_eq_true, e2]
    exact ⟨by simpa using h.small, h.last⟩
theorem good_nil : Good [] := ⟨(fun _ h => nomatch h), (fun _ h => nomatch h), by decide⟩
theorem wire_cons (b : List UInt8) (ls : Lbl) : wire (b :: ls) = (b.length : Int) + 1 + wire ls := by unfold wire; simp
theorem Good.cons {ls : Lbl} {b : List UInt8} (h : Good ls) (h1 : 1 ≤ b.length) (h2 : b.length ≤ 63) (h3 : wire (b :: ls) ≤ 255) : Good (b :: ls) := by
  refine ⟨fun c hc => ?_, fun c hc => ?_, h3⟩
  · cases ls with
    | nil => simp at hc
    | cons d r =>
      rw [List.dropLast_cons_of_ne_nil (by simp)] at hc
      rcases List.mem_cons.mp hc with rfl | hc
      · exact ⟨h1, h2⟩
      · exact h.init c hc
  · cases ls with
    | nil => simp at hc; subst hc; exact h2
    | cons d r => rw [List.getLast?_cons_cons] at hc; exact h.last c hc
theorem Good.mem {ls : Lbl} (h : Good ls) {b : List UInt8} (hb : b ∈ ls) : b.length ≤ 63 := by
  cases q : ls.getLast? with
  | none => rw [List.getLast?_eq_none_iff] at q; subst q; cases hb
  | some c =>
    have hne : ls ≠ [] := fun e => by rw [e] at hb; cases hb
    have e := List.dropLast_concat_getLast hne
    rw [← e] at hb
    rcases List.mem_append.mp hb with hb | hb
    · exact (h.init b hb).2
    · have hb : b = ls.getLast hne := by simpa using hb
      refine h.last b ?_
      rw [hb, List.getLast?_eq_some_getLast hne]
theorem len_wire : ∀ ls : Lbl, (ls.length : Int) ≤ wire ls
  | [] => by simp [wire]
  | b :: r => by rw [wire_cons]; have := len_wire r; simp; omega
theorem Good.len {ls : Lbl} (h : Good ls) : ls.length ≤ 255 := by have := len_wire ls; have := h.small; omega
theorem Good.lawful {ls : Lbl} (h : Good ls) : Lawful ls := by
  refine ⟨fun b hb => h.mem hb, h.small, ?_⟩
  unfold fe
  cases q : ls.findIdx? (· == []) with
  | none => left; decide
  | some i =>
    right
    show (i : Int) = _
    rw [List.findIdx?_eq_some_iff_getElem] at q
    obtain ⟨hi, hb, _⟩ := q
    have : ¬ i < ls.length - 1 := fun hlt => by
      have hm : ls[i] ∈ ls.dropLast := by
        rw [List.dropLast_eq_take]
        exact List.mem_take_iff_getElem.mpr ⟨i, by omega, rfl⟩
      have := (h.init _ hm).1
      have e : ls[i] = [] := by simpa using hb
      rw [e] at this; simp at this
    omega
theorem blow_len (b : List UInt8) : (blow b).length = b.length := by unfold blow; simp
theorem turnL_good {x : Int} {base : Lbl} (h : Good base) : Good (turnL x base) := by
  unfold turnL
  split
  · rename_i q; exact (good_iff _).mp q
  · exact h
theorem bytesOf_len (ns : List Int) : (bytesOf ns).length = ns.length := by unfold bytesOf; simp
structure GoodS (t : NSt) : Prop where
  g : Good t.ls
  u : t.u = wire t.ls
theorem startN_good (x : Int) : GoodS (startN x) := by
  unfold startN
  split
  · exact ⟨⟨fun b h => by simp at h, fun b h => by simp at h; subst h; simp, (by decide : wire [[]] ≤ 255)⟩, (by decide : (1 : Int) = wire [[]])⟩
  · exact ⟨good_nil, (by decide : (0 : Int) = wire [])⟩
theorem fill3_good : ∀ (k : Nat) (t : NSt), GoodS t → Good (fill3 k t).ls
  | 0, t, h => h.g
  | k + 1, t, h => by
    unfold fill3
    split
    · exact h.g
    · rename_i q
      simp only [Bool.or_eq_true, decide_eq_true_eq, not_or] at q
      have h0 : 0 ≤ t.x.fmod 64 := Int.fmod_nonneg_of_pos _ (by decide)
      have h1 : t.x.fmod 64 < 64 := Int.fmod_lt_of_pos _ (by decide)
      have hl : (bytesOf (octI (t.x.fdiv 64) (t.x.fmod 64).toNat)).length = (t.x.fmod 64).toNat := by rw [bytesOf_len]; simp [octI]
      have hu := h.u
      refine fill3_good k _ ⟨h.g.cons (by rw [hl]; omega) (by rw [hl]; omega) ?_, ?_⟩
      · rw [wire_cons, hl, ← hu]; omega
      · show t.u + (t.x.fmod 64 + 1) = _
        rw [wire_cons, hl, hu]; omega
theorem octP_ok (kind x : Int) : 1 ≤ (octP kind x).length ∧ (octP kind x).length ≤ 63 := by
  have hp := poolL_len x
  have hp1 : 1 ≤ (poolL.getD (x.fmod 10).toNat []).length := by
    have h1 : ∀ j : Nat, j < 10 → 1 ≤ (poolL.getD j []).length := by decide
    have h2 := Int.fmod_nonneg_of_pos x (b := 10) (by decide)
    have h3 := Int.fmod_lt_of_pos x (b := 10) (by decide)
    exact h1 _ (by omega)
  have h6 := Int.fmod_nonneg_of_pos (x.fdiv 10) (b := 6) (by decide)
  have h3 := Int.fmod_lt_of_pos (x.fdiv 10) (b := 6) (by decide)
  unfold octP
  split
  · rw [List.length_append, List.length_replicate]; omega
  · omega
theorem stepP_good {kind : Int} {t : NSt} (h : GoodS t) : GoodS (stepP kind t) := by
  unfold stepP
  have hu := h.u
  have ho := octP_ok kind t.x
  split
  · rename_i q
    have hl : (bytesOf (octP kind t.x)).length = (octP kind t.x).length := bytesOf_len _
    refine ⟨h.g.cons (by rw [hl]; exact ho.1) (by rw [hl]; exact ho.2) ?_, ?_⟩
    · rw [wire_cons, hl, ← hu]; omega
    · show t.u + ((octP kind t.x).length + 1) = _
      rw [wire_cons, hl, hu]; omega
  · exact ⟨h.g, hu⟩
theorem fillP_good {kind : Int} : ∀ (k : Nat) (t : NSt), GoodS t → GoodS (fillP kind k t)
  | 0, t, h => h
  | k + 1, t, h => stepP_good (fillP_good k t h)
theorem nameL_good {v : Int} {earlier : List Lbl} (h : ∀ b ∈ earlier, Good b) : Good (nameL v earlier) := by
  unfold nameL
  split
  · rename_i q
    refine turnL_good ?_
    have hpos : 0 < earlier.length := by simp at q; exact List.length_pos_iff.mpr (by intro e; rw [e] at q; simp at q)
    have m0 := Int.fmod_nonneg_of_pos (v.fdiv 4) (b := (earlier.length : Int)) (by omega)
    have m1 := Int.fmod_lt_of_pos (v.fdiv 4) (b := (earlier.length : Int)) (by omega)
    refine h _ ?_
    rw [List.getD_eq_getElem?_getD, List.getElem?_eq_getElem (by omega)]
    exact List.getElem_mem _
  · have hs := startN_good (v.fdiv 4)
    split
    · exact fill3_good 6 _ hs
    · exact (fillP_good _ ⟨(startN (v.fdiv 4)).ls, (startN (v.fdiv 4)).u, (startN (v.fdiv 4)).x.fdiv 5⟩ ⟨hs.g, hs.u⟩).g
theorem rowsN_good (ns : List Int) : ∀ k, ∀ b ∈ rowsN ns k, Good b
  | 0, b, h => by simp [rowsN] at h
  | k + 1, b, h => by
    unfold rowsN at h
    rcases List.mem_append.mp h with h | h
    · exact rowsN_good ns k b h
    · have : b = nameL (drawL ns k) (rowsN ns k) := by simpa using h
      rw [this]; exact nameL_good (rowsN_good ns k)
theorem fe_of {ls : Lbl} (h : ∀ b ∈ ls.dropLast, 1 ≤ b.length) : fe ls < 0 ∨ fe ls = (ls.length : Int) - 1 := by
  unfold fe
  cases q : ls.findIdx? (· == []) with
  | none => left; decide
  | some i =>
    right
    show (i : Int) = _
    rw [List.findIdx?_eq_some_iff_getElem] at q
    obtain ⟨hi, hb, _⟩ := q
    have : ¬ i < ls.length - 1 := fun hlt => by
      have hm : ls[i] ∈ ls.dropLast := by
        rw [List.dropLast_eq_take]
        exact List.mem_take_iff_getElem.mpr ⟨i, by omega, rfl⟩
      have := h _ hm
      have e : ls[i] = [] := by simpa using hb
      rw [e] at this; simp at this
    omega
theorem mem_init_last {ls : Lbl} {b : List UInt8} (hb : b ∈ ls) : b ∈ ls.dropLast ∨ ls.getLast? = some b := by
  cases q : ls.getLast? with
  | none => rw [List.getLast?_eq_none_iff] at q; subst q; cases hb
  | some c =>
    have hne : ls ≠ [] := fun e => by rw [e] at hb; cases hb
    have e := List.dropLast_concat_getLast hne
    rw [← e] at hb
    rcases List.mem_append.mp hb with hb | hb
    · exact .inl hb
    · have hb : b = ls.getLast hne := by simpa using hb
      rw [← q, hb]; exact .inr (List.getLast?_eq_some_getLast hne)
theorem Good.rel {ls : Lbl} (h : Good ls) (ha : absL ls = false) : ∀ b ∈ ls, 1 ≤ b.length := by
  intro b hb
  rcases mem_init_last hb with q | q
  · exact (h.init b q).1
  · cases b with
    | nil => unfold absL at ha; rw [q] at ha; simp at ha
    | cons c r => simp
theorem Good.app {a b : Lbl} (ga : Good a) (gb : Good b) (h : (absL a && decide ((0 : Int) < (b.length : Int))) = false) : (∀ c ∈ a ++ b, c.length ≤ 63) ∧ (fe (a ++ b) < 0 ∨ fe (a ++ b) = ((a ++ b).length : Int) - 1) := by
  refine ⟨fun c hc => (List.mem_append.mp hc).elim ga.mem gb.mem, fe_of ?_⟩
  cases b with
  | nil => rw [List.append_nil]; exact fun c hc => (ga.init c hc).1
  | cons d r =>
    have ha : absL a = false := by
      cases q : absL a with
      | false => rfl
      | true => rw [q] at h; simp at h
    intro c hc
    rw [List.dropLast_append_of_ne_nil (by simp)] at hc
    rcases List.mem_append.mp hc with hc | hc
    · exact ga.rel ha c hc
    · exact (gb.init c hc).1
theorem wire_drop (ls : Lbl) (k : Nat) : wire (ls.drop k) ≤ wire ls := by
  have h := wire_app (ls.take k) (ls.drop k)
  rw [List.take_append_drop] at h
  have := wire_nonneg (ls.take k)
  omega
theorem Good.drop {ls : Lbl} (h : Good ls) (k : Nat) : Good (ls.drop k) := by
  refine ⟨fun b hb => ?_, fun b hb => ?_, Int.le_trans (wire_drop ls k) h.small⟩
  · have e : (ls.drop k).dropLast = ls.dropLast.drop k := by
      rw [List.dropLast_eq_take, List.dropLast_eq_take, List.length_drop, List.drop_take]; congr 1; omega
    rw [e] at hb
    exact h.init b (List.mem_of_mem_drop hb)
  · rw [List.getLast?_drop] at hb
    split at hb
    · cases hb
    · exact h.last b hb
theorem Good.take {ls : Lbl} (h : Good ls) (k : Nat) : Good (ls.take k) := by
  refine ⟨fun b hb => ?_, fun b hb => ?_, Int.le_trans (wire_take ls k) h.small⟩
  · rw [List.dropLast_eq_take, List.length_take, List.take_take] at hb
    refine h.init b ?_
    rw [List.dropLast_eq_take]
    have hle : min (min k ls.length - 1) k ≤ ls.length - 1 := by omega
    exact (List.take_subset_take_left ls hle) hb
  · exact h.mem (List.mem_of_mem_take (List.mem_of_getLast? hb))
section
variable {g : GI} {f : Fm} {n : Nat} {ρ : En}
theorem retR1 {r : Res} : ∀ d, r = .ok d → RetO r (.ret d) := fun d h => by subst h; exact retO
theorem retR2 {ρ : En} {r : Res} : ∀ c, r = .exc c → RetO r (.exc c ρ) := fun c h => by subst h; exact ⟨_, rfl⟩
theorem Ex.retR {e : Expr} {pos : Pos} {rest : List Stmt} {r : Res} (ok : FmOk g f n) (he : Ev g f ρ e r) : Ex g f ρ (.Return (some e) pos :: rest) (RetO r) := Ex.ret ok he retR1 retR2
end
theorem nameR_ok {tl : Addr} {ls : Lbl} (h : wire ls ≤ 255) : nameR tl ls = .ok (.name ls) := by unfold nameR; rw [if_neg (by omega)]
def conR (a b : Lbl) : Res := if (absL a && decide ((0 : Int) < (b.length : Int))) = true then .exc (.ref 118) else nameR 94 (a ++ b)
def subB (a b : Lbl) : Bool := decide ((fc a b).1 = 2) || decide ((fc a b).1 = 3)
def relL (a b : Lbl) : Lbl := if subB a b = true then slc a none (some (-(b.length : Int))) else a
def derR (a b : Lbl) : Res := if (!absL a) = true then conR a b else .ok (.name a)
def parR (a : Lbl) : Res := if (decide ((fc a [[]]).2.1 = 0) || decide ((fc a []).2.1 = 0)) = true then .exc (.ref 130) else .ok (.name (slc a (some 1) none))
def splR (a : Lbl) (d : Int) : Res := if d = 0 then .ok (.tup [.name a, .name []]) else if d = (a.length : Int) then .ok (.tup [.name [], .name a]) else if (decide (d < 0) || decide ((a.length : Int) < d)) = true then .exc (.type "ValueError")
  else .ok (.tup [.name (slc a none (some (-d))), .name (slc a (some (-d)) none)])
theorem clip_neg (n : Nat) (k : Nat) : clipAt n (-(k : Int)) = if k = 0 then 0 else n - k := by
  unfold clipAt
  split <;> split <;> omega
theorem slc_upto (a : Lbl) (k : Nat) : slc a none (some (-(k : Int))) = a.take (if k = 0 then 0 else a.length - k) := by
  show List.take (clipAt a.length (-(k : Int)) - 0) (List.drop 0 a) = _
  rw [clip_neg]; simp
theorem slc_from (a : Lbl) (k : Nat) : slc a (some (-(k : Int))) none = a.drop (if k = 0 then 0 else a.length - k) := by
  show List.take (a.length - clipAt a.length (-(k : Int))) (List.drop (clipAt a.length (-(k : Int))) a) = _
  rw [clip_neg]
  apply List.take_of_length_le; simp
theorem Good.slc_upto {a : Lbl} (h : Good a) (k : Nat) : Good (slc a none (some (-(k : Int)))) := by rw [Mine.slc_upto]; exact h.take _
theorem Good.slc_from {a : Lbl} (h : Good a) (k : Nat) : Good (slc a (some (-(k : Int))) none) := by rw [Mine.slc_from]; exact h.drop _
theorem Good.tail1 {a : Lbl} (h : Good a) : Good (slc a (some 1) none) := by
  have : slc a (some (1 : Int)) none = a.drop (clipAt a.length 1) := by
    show List.take (a.length - clipAt a.length 1) (List.drop (clipAt a.length 1) a) = _
    apply List.take_of_length_le; simp
  rw [this]; exact h.drop _
section
variable {prog : Program} {w : World} {H0 : Heap} {p : Program} {loose : List Str} {mg mb : Str → Option Value}
theorem excAbs : ExcK (gi prog w H0 p loose mg mb) "AbsoluteConcatenation" 118 := ⟨by kernel_rfl, by kernel_rfl, by kernel_rfl, by kernel_rfl⟩
theorem excNoParent : ExcK (gi prog w H0 p loose mg mb) "NoParent" 130 := ⟨by kernel_rfl, by kernel_rfl, by kernel_rfl, by kernel_rfl⟩
theorem gv_VE : GV (gi prog w H0 p loose mg mb) "ValueError" (.type "ValueError") := GV.boot (by kernel_rfl) (by kernel_rfl) (by decide) (by rfl)
theorem kn_root : ∃ v, nsIn (gi prog w H0 p loose mg mb).K mainGlobals "root" = some (some v) ∧ KName (gi prog w H0 p loose mg mb).K (gi prog w H0 p loose mg mb).C [[]] v :=
  ⟨_, by rfl, ⟨_, _, _, _, _, [_], _, _, rfl, by rfl, by rfl, by rfl, by simp [sizeLine], by simp [sizeLine], [_], rfl, rfl⟩⟩
theorem kn_empty : ∃ v, nsIn (gi prog w H0 p loose mg mb).K mainGlobals "empty" = some (some v) ∧ KName (gi prog w H0 p loose mg mb).K (gi prog w H0 p loose mg mb).C [] v :=
  ⟨_, by rfl, ⟨_, _, _, _, _, [], _, _, rfl, by rfl, by rfl, by rfl, by simp [sizeLine], by simp [sizeLine], [], rfl, rfl⟩⟩
section
variable {f : Fm} {n : Nat} {ρ : En}
theorem Ev.root {pos : Pos} (ok : FmOk (gi prog w H0 p loose mg mb) f n) (hx : f.env.kindOf "root" = some .globalImplicit) : Ev (gi prog w H0 p loose mg mb) f ρ (.Name "root" pos) (.ok (.name [[]])) := by
  obtain ⟨v, e1, e2⟩ := kn_root (prog := prog) (w := w) (H0 := H0) (p := p) (loose := loose) (mg := mg) (mb := mb)
  exact Ev.globName ok hx (GV.glob e1 (by rfl)) e2
theorem Ev.empty {pos : Pos} (ok : FmOk (gi prog w H0 p loose mg mb) f n) (hx : f.env.kindOf "empty" = some .globalImplicit) : Ev (gi prog w H0 p loose mg mb) f ρ (.Name "empty" pos) (.ok (.name [])) := by
  obtain ⟨v, e1, e2⟩ := kn_empty (prog := prog) (w := w) (H0 := H0) (p := p) (loose := loose) (mg := mg) (mb := mb)
  exact Ev.globName ok hx (GV.glob e1 (by rfl)) e2
end
theorem isSubM : MethK (gi prog w H0 p loose mg mb) "is_subdomain" 186 := ⟨by kernel_rfl, by kernel_rfl, by kernel_rfl, by kernel_rfl, by kernel_rfl, by decide +kernel⟩
theorem conM : MethK (gi prog w H0 p loose mg mb) "concatenate" 315 := ⟨by kernel_rfl, by kernel_rfl, by kernel_rfl, by kernel_rfl, by kernel_rfl, by decide +kernel⟩
theorem relM : MethK (gi prog w H0 p loose mg mb) "relativize" 322 := ⟨by kernel_rfl, by kernel_rfl, by kernel_rfl, by kernel_rfl, by kernel_rfl, by decide +kernel⟩
theorem derM : MethK (gi prog w H0 p loose mg mb) "derelativize" 329 := ⟨by kernel_rfl, by kernel_rfl, by kernel_rfl, by kernel_rfl, by kernel_rfl, by decide +kernel⟩
theorem choM : MethK (gi prog w H0 p loose mg mb) "choose_relativity" 337 := ⟨by kernel_rfl, by kernel_rfl, by kernel_rfl, by kernel_rfl, by kernel_rfl, by decide +kernel⟩
theorem parM : MethK (gi prog w H0 p loose mg mb) "parent" 344 := ⟨by kernel_rfl, by kernel_rfl, by kernel_rfl, by kernel_rfl, by kernel_rfl, by decide +kernel⟩
theorem splM : MethK (gi prog w H0 p loose mg mb) "split" 308 := ⟨by kernel_rfl, by kernel_rfl, by kernel_rfl, by kernel_rfl, by kernel_rfl, by decide +kernel⟩
theorem notF : notFirst (gi prog w H0 p loose mg mb).K 363 (.ref 363) = true := by kernel_rfl
theorem op_eq {a b : Lbl} (ha : a.length ≤ 1000) (hb : b.length ≤ 1000) : Op2 (gi prog w H0 p loose mg mb) 5 (compareOp .Eq) (.name a) (.name b) (.ok (.bool (decide ((fc a b).2.1 = 0)))) := Op2.cmpName (by decide) notF (by kernel_rfl) (by kernel_rfl) (fn_eqN ha hb)
theorem Op2.up {g : GI} {n m : Nat} {t : Value → Value → Sem Value} {a b : V} {r : Res} (h : Op2 g m t a b r) (hm : m ≤ n) : Op2 g n t a b r := fun f ρ σ s Q E va vb ok S ra rb q ex =>
  h f ρ σ s Q E va vb { ok with room := ok.room.mono hm } S ra rb q ex
theorem fn_len {ls : Lbl} : Fn (gi prog w H0 p loose mg mb) 1 (.ref 280) [.name ls] (.ok (.int (ls.length : Nat))) := by
  refine Fn.intro (n := 0) (names := ["self"]) (loc := []) (xs := []) (dx := []) (by rfl) (by kernel_rfl) (fun vs s hv _ => bind1 (fun v => by rfl) vs s hv) (fun _ _ => by simp only [RepL]) (by decide +kernel) rfl (by decide +kernel) (by decide +kernel) ?_
  rintro ⟨⟨sc, lo, gl, ce, qu, fu, co, fr, bu⟩, A, st, ou, hE, xs, ys⟩ ok hs hx hy hc
  dsimp only at hs hx hy hc
  subst hs hx hy hc
  have e : (ls.length : Nat) = (ls.map V.bytes).length := by simp
  rw [e]
  exact Ex.retV ok (Ev.callB ok rfl gv_len kept_builtin (Evs.cons ok (Ev.labels ok labK (Ev.name ok 0 rfl rfl)) Evs.nil rfl) Bi.lenTup)
theorem bi_len {ls : Lbl} {n : Nat} (hn : 1 < n) (hz : ls.length ≤ 1000) : Bi (gi prog w H0 p loose mg mb) n (.builtin "len") [.name ls] (.ok (.int (ls.length : Nat))) := Bi.lenName hn (by kernel_rfl) (by kernel_rfl) fn_len (by omega)
theorem fn_item {ls : Lbl} {i : Nat} {b : List UInt8} (hb : ls[i]? = some b) : Fn (gi prog w H0 p loose mg mb) 1 (.ref 287) [.name ls, .int (i : Int)] (.ok (.bytes b)) := by
  refine Fn.intro (n := 0) (names := ["self", "index"]) (loc := []) (xs := []) (dx := []) (by rfl) (by kernel_rfl) (fun vs s hv _ => bind2 (fun v u => by rfl) vs s hv) (fun _ _ => by simp only [RepL]) (by decide +kernel) rfl (by decide +kernel) (by decide +kernel) ?_
  rintro ⟨⟨sc, lo, gl, ce, qu, fu, co, fr, bu⟩, A, st, ou, hE, xs, ys⟩ ok hs hx hy hc
  dsimp only at hs hx hy hc
  subst hs hx hy hc
  refine Ex.retV ok (Ev.sub ok (Ev.labels ok labK (Ev.name ok 0 rfl rfl)) (Ev.name ok 1 rfl rfl) (.inr (.inl rfl)) (Op2.itemTup ?_ (by omega)))
  have : vidx (ls.map V.bytes).length (i : Int) = i := by unfold vidx; rw [if_neg (by omega)]; simp
  rw [this, List.getElem?_map, hb]; rfl
theorem fn_con {a b : Lbl} (ha : Good a) (hb : Good b) : Fn (gi prog w H0 p loose mg mb) 6 (.ref 315) [.name a, .name b] (conR a b) := by
  have la := ha.len
  have lb := hb.len
  refine Fn.intro (n := 5) (names := ["self", "other"]) (loc := ["labels"]) (xs := []) (dx := []) (by rfl) (by kernel_rfl) (fun vs s hv _ => bind2 (fun v u => by rfl) vs s hv) (fun _ _ => by simp only [RepL]) (by decide +kernel) rfl (by decide +kernel) (by decide +kernel) ?_
  rintro ⟨⟨sc, lo, gl, ce, qu, fu, co, fr, bu⟩, A, st, ou, hE, xs, ys⟩ ok hs hx hy hc
  dsimp only at hs hx hy hc
  subst hs hx hy hc
  refine Ex.ifR ok (c := absL a && decide ((0 : Int) < ((b.length : Nat) : Int))) (Te.bool (TAll.and_cons ok (Te.val (Ev.meth0 ok isAbsM (m := 2) (by decide) (Ev.name ok 0 rfl rfl) fn_is_abs)) fun _ => TAll.and1 ok (Te.cmp ok (Ev.callB ok rfl gv_len kept_builtin (Evs.cons ok (Ev.name ok 1 rfl rfl) Evs.nil rfl) (bi_len (by decide) (by omega))) Ev.cint Op2.gt))) (fun h => ?_) (fun h => ?_)
  · unfold conR; rw [if_pos h]
    exact Ex.raiseOwn ok rfl excAbs ⟨⟨_, rfl⟩, fun _ h => nomatch h⟩
  unfold conR; rw [if_neg (by rw [h]; decide)]
  refine Ex.assignO ok 2 rfl (EvO.listT ok rfl gv_list (Ev.labels ok labK (Ev.name ok 0 rfl rfl))) rfl ?_
  refine Ex.extend (es := b.map .bytes) ok 2 rfl rfl (Ev.callB ok rfl gv_list kept_type (Evs.cons ok (Ev.labels ok labK (Ev.name ok 1 rfl rfl)) Evs.nil rfl) Bi.listT) (.inl rfl) (by simp only [List.length_map]; exact small_line (by omega)) ?_
  refine Ex.freeze (i := 2) (ds := a.map .bytes ++ b.map .bytes) ok rfl ?_
  have e : a.map V.bytes ++ b.map V.bytes = (a ++ b).map .bytes := by simp
  rw [e]
  have hab := ha.app hb h
  exact Ex.retR ok (Ev.call ok rfl gv_Name (.inr (by kernel_rfl)) (m := 5) (by decide) (Evs.cons ok (Ev.name ok 2 rfl rfl) Evs.nil rfl) (fn_NameG hab.1 hab.2 (by rw [List.length_append]; omega)))
theorem conR_name {a b : Lbl} : ∀ d, conR a b = .ok d → ∃ ls, d = .name ls := by
  intro d h
  unfold conR nameR at h
  split at h
  · cases h
  · split at h
    · cases h
    · injection h with h; exact ⟨_, h.symm⟩
theorem fn_add {a b : Lbl} (ha : Good a) (hb : Good b) : Fn (gi prog w H0 p loose mg mb) 7 (.ref 294) [.name a, .name b] (conR a b) := by
  refine Fn.intro (n := 6) (names := ["self", "other"]) (loc := []) (xs := []) (dx := []) (by rfl) (by kernel_rfl) (fun vs s hv _ => bind2 (fun v u => by rfl) vs s hv) (fun _ _ => by simp only [RepL]) (by decide +kernel) rfl (by decide +kernel) (by decide +kernel) ?_
  rintro ⟨⟨sc, lo, gl, ce, qu, fu, co, fr, bu⟩, A, st, ou, hE, xs, ys⟩ ok hs hx hy hc
  dsimp only at hs hx hy hc
  subst hs hx hy hc
  exact Ex.retR ok (Ev.meth ok conM (m := 6) (by decide) (Ev.name ok 0 rfl rfl) (Evs.cons ok (Ev.name ok 1 rfl rfl) Evs.nil rfl) (fn_con ha hb))
theorem fn_rel {a b : Lbl} (ha : Good a) (hb : Good b) : Fn (gi prog w H0 p loose mg mb) 6 (.ref 322) [.name a, .name b] (.ok (.name (relL a b))) := by
  have la := ha.len
  have lb := hb.len
  refine Fn.intro (n := 5) (names := ["self", "origin"]) (loc := []) (xs := []) (dx := []) (by rfl) (by kernel_rfl) (fun vs s hv _ => bind2 (fun v u => by rfl) vs s hv) (fun _ _ => by simp only [RepL]) (by decide +kernel) rfl (by decide +kernel) (by decide +kernel) ?_
  rintro ⟨⟨sc, lo, gl, ce, qu, fu, co, fr, bu⟩, A, st, ou, hE, xs, ys⟩ ok hs hx hy hc
  dsimp only at hs hx hy hc
  subst hs hx hy hc
  refine Ex.ite ok (Te.val (Ev.meth ok isSubM (m := 5) (by decide) (Ev.name ok 0 rfl rfl) (Evs.cons ok (Ev.name ok 1 rfl rfl) Evs.nil rfl) (fn_is_sub (by omega) (by omega)))) (fun h => ?_) (fun h => ?_)
  · unfold relL; rw [if_pos (show subB a b = true from h)]
    have g' := ha.slc_upto b.length
    have gl := g'.len
    exact Ex.retV ok (Ev.call ok rfl gv_Name (.inr (by kernel_rfl)) (m := 5) (by decide) (Evs.cons ok ((slc_map V.bytes a none (some (-((b.length : Nat) : Int)))) ▸ Ev.sliceTup ok (Ev.labels ok labK (Ev.name ok 0 rfl rfl)) EvP.no (EvP.at (Ev.neg (Ev.callB ok rfl gv_len kept_builtin (Evs.cons ok (Ev.name ok 1 rfl rfl) Evs.nil rfl) (bi_len (by decide) (by omega)))))) Evs.nil rfl) (by have h1 := fn_NameT (prog := prog) (w := w) (H0 := H0) (p := p) (loose := loose) (mg := mg) (mb := mb) (ls := slc a none (some (-(b.length : Int)))) (fun c hc => g'.mem hc) (fe_of fun c hc => (g'.init c hc).1) (by omega); rwa [nameR_ok g'.small] at h1))
  · unfold relL; rw [if_neg (show ¬ subB a b = true by unfold subB; rw [h]; decide)]
    exact Ex.retV ok (Ev.name ok 0 rfl rfl)
theorem fn_NameTG {ls : Lbl} (h : Good ls) : Fn (gi prog w H0 p loose mg mb) 5 (.ref 363) [.tup (ls.map .bytes)] (.ok (.name ls)) := by
  have hl := h.len
  have h1 := fn_NameT (prog := prog) (w := w) (H0 := H0) (p := p) (loose := loose) (mg := mg) (mb := mb) (ls := ls) (fun c hc => h.mem hc) (fe_of fun c hc => (h.init c hc).1) (by omega)
  rwa [nameR_ok h.small] at h1
theorem fn_subm {a b : Lbl} (ha : Good a) (hb : Good b) : Fn (gi prog w H0 p loose mg mb) 7 (.ref 301) [.name a, .name b] (.ok (.name (relL a b))) := by
  refine Fn.intro (n := 6) (names := ["self", "other"]) (loc := []) (xs := []) (dx := []) (by rfl) (by kernel_rfl) (fun vs s hv _ => bind2 (fun v u => by rfl) vs s hv) (fun _ _ => by simp only [RepL]) (by decide +kernel) rfl (by decide +kernel) (by decide +kernel) ?_
  rintro ⟨⟨sc, lo, gl, ce, qu, fu, co, fr, bu⟩, A, st, ou, hE, xs, ys⟩ ok hs hx hy hc
  dsimp only at hs hx hy hc
  subst hs hx hy hc
  exact Ex.retR ok (Ev.meth ok relM (m := 6) (by decide) (Ev.name ok 0 rfl rfl) (Evs.cons ok (Ev.name ok 1 rfl rfl) Evs.nil rfl) (fn_rel ha hb))
theorem fn_der {a b : Lbl} (ha : Good a) (hb : Good b) : Fn (gi prog w H0 p loose mg mb) 7 (.ref 329) [.name a, .name b] (derR a b) := by
  refine Fn.intro (n := 6) (names := ["self", "origin"]) (loc := []) (xs := []) (dx := []) (by rfl) (by kernel_rfl) (fun vs s hv _ => bind2 (fun v u => by rfl) vs s hv) (fun _ _ => by simp only [RepL]) (by decide +kernel) rfl (by decide +kernel) (by decide +kernel) ?_
  rintro ⟨⟨sc, lo, gl, ce, qu, fu, co, fr, bu⟩, A, st, ou, hE, xs, ys⟩ ok hs hx hy hc
  dsimp only at hs hx hy hc
  subst hs hx hy hc
  refine Ex.ite ok (Te.not (Te.val (Ev.meth0 ok isAbsM (m := 2) (by decide) (Ev.name ok 0 rfl rfl) fn_is_abs))) (fun h => ?_) (fun h => ?_)
  · unfold derR; rw [if_pos h]
    exact Ex.retR ok (Ev.meth ok conM (m := 6) (by decide) (Ev.name ok 0 rfl rfl) (Evs.cons ok (Ev.name ok 1 rfl rfl) Evs.nil rfl) (fn_con ha hb))
  · unfold derR; rw [if_neg (by rw [h]; decide)]
    exact Ex.retV ok (Ev.name ok 0 rfl rfl)
theorem fn_par {a : Lbl} (ha : Good a) : Fn (gi prog w H0 p loose mg mb) 7 (.ref 344) [.name a] (parR a) := by
  have la := ha.len
  refine Fn.intro (n := 6) (names := ["self"]) (loc := []) (xs := []) (dx := []) (by rfl) (by kernel_rfl) (fun vs s hv _ => bind1 (fun v => by rfl) vs s hv) (fun _ _ => by simp only [RepL]) (by decide +kernel) rfl (by decide +kernel) (by decide +kernel) ?_
  rintro ⟨⟨sc, lo, gl, ce, qu, fu, co, fr, bu⟩, A, st, ou, hE, xs, ys⟩ ok hs hx hy hc
  dsimp only at hs hx hy hc
  subst hs hx hy hc
  refine Ex.ifR ok (c := decide ((fc a [[]]).2.1 = 0) || decide ((fc a []).2.1 = 0)) (Te.bool (TAll.or_cons ok (Te.cmp ok (Ev.name ok 0 rfl rfl) (Ev.root ok rfl) ((op_eq (by omega) (by simp)).up (by decide))) fun _ => TAll.or1 ok (Te.cmp ok (Ev.name ok 0 rfl rfl) (Ev.empty ok rfl) ((op_eq (by omega) (by simp)).up (by decide))))) (fun h => ?_) (fun h => ?_)
  · unfold parR; rw [if_pos h]
    exact Ex.raiseOwn ok rfl excNoParent ⟨⟨_, rfl⟩, fun _ h => nomatch h⟩
  unfold parR; rw [if_neg (by rw [h]; decide)]
  exact Ex.retR ok (Ev.call ok rfl gv_Name (.inr (by kernel_rfl)) (m := 5) (by decide) (Evs.cons ok ((slc_map V.bytes a (some 1) none) ▸ Ev.sliceTup ok (Ev.labels ok labK (Ev.name ok 0 rfl rfl)) (EvP.at Ev.cint) EvP.no) Evs.nil rfl) (fn_NameTG ha.tail1))
theorem fn_spl {a : Lbl} {d : Int} (ha : Good a) : Fn (gi prog w H0 p loose mg mb) 6 (.ref 308) [.name a, .int d] (splR a d) := by
  have la := ha.len
  refine Fn.intro (n := 5) (names := ["self", "depth"]) (loc := ["l"]) (xs := []) (dx := []) (by rfl) (by kernel_rfl) (fun vs s hv _ => bind2 (fun v u => by rfl) vs s hv) (fun _ _ => by simp only [RepL]) (by decide +kernel) rfl (by decide +kernel) (by decide +kernel) ?_
  rintro ⟨⟨sc, lo, gl, ce, qu, fu, co, fr, bu⟩, A, st, ou, hE, xs, ys⟩ ok hs hx hy hc
  dsimp only at hs hx hy hc
  subst hs hx hy hc
  have hml : ((a.map V.bytes).length : Int) = (a.length : Int) := by simp
  refine Ex.assign ok 2 rfl (Ev.callB ok rfl gv_len kept_builtin (Evs.cons ok (Ev.labels ok labK (Ev.name ok 0 rfl rfl)) Evs.nil rfl) Bi.lenTup) ?_
  rw [hml]
  refine Ex.ifE (Pc := ¬ d = 0 ∧ ¬ d = (a.length : Int) ∧ ¬ (decide (d < 0) || decide ((a.length : Int) < d)) = true) ok (Te.cmp ok (Ev.name ok 1 rfl rfl) Ev.cint Op2.eq) (fun h => ?_) (fun h => ?_) (fun h => ?_)
  · have h' : d = 0 := by simpa using h
    unfold splR; rw [if_pos h']
    exact Ex.retN ok (Ev.tupD ok (Evs.cons ok (Ev.name ok 0 rfl rfl) (Evs.cons ok (Ev.empty ok rfl) Evs.nil rfl) rfl) (by simp)) retO
  · have h1 : ¬ d = 0 := by simpa using h
    refine Ex.ite ok (Te.cmp ok (Ev.name ok 1 rfl rfl) (Ev.name ok 2 rfl rfl) Op2.eq) (fun h => ?_) (fun h => ?_)
    · have h' : d = (a.length : Int) := by simpa using h
      unfold splR; rw [if_neg h1, if_pos h']
      exact (Ex.retN ok (Ev.tupD ok (Evs.cons ok (Ev.empty ok rfl) (Evs.cons ok (Ev.name ok 0 rfl rfl) Evs.nil rfl) rfl) (by simp)) retO).mono fun o ho => .inl ho
    · have h2 : ¬ d = (a.length : Int) := by simpa using h
      refine Ex.ite ok (c := decide (d < 0) || decide ((a.length : Int) < d)) (Te.bool (TAll.or_cons ok (Te.cmp ok (Ev.name ok 1 rfl rfl) Ev.cint Op2.lt) fun _ => TAll.or1 ok (Te.cmp ok (Ev.name ok 1 rfl rfl) (Ev.name ok 2 rfl rfl) Op2.gt))) (fun h => ?_) (fun h => ?_)
      · unfold splR; rw [if_neg h1, if_neg h2, if_pos h]
        exact Ex.raiseVE ok rfl gv_VE (.inl ⟨⟨_, rfl⟩, fun _ h => nomatch h⟩)
      · exact Ex.nil (.inr ⟨rfl, h1, h2, by rw [h]; decide⟩)
  obtain ⟨h1, h2, h3⟩ := h
  unfold splR; rw [if_neg h1, if_neg h2, if_neg h3]
  have hd : d = ((d.toNat : Nat) : Int) := by simp at h3; omega
  have g1 : Good (slc a none (some (-d))) := by rw [hd]; exact ha.slc_upto _
  have g2 : Good (slc a (some (-d)) none) := by rw [hd]; exact ha.slc_from _
  exact Ex.retV ok (Ev.tupD ok (Evs.cons ok (Ev.call ok rfl gv_Name (.inr (by kernel_rfl)) (m := 5) (by decide) (Evs.cons ok ((slc_map V.bytes a none (some (-d))) ▸ Ev.sliceTup ok (Ev.labels ok labK (Ev.name ok 0 rfl rfl)) EvP.no (EvP.at (Ev.neg (Ev.name ok 1 rfl rfl)))) Evs.nil rfl) (fn_NameTG g1))
    (Evs.cons ok (Ev.call ok rfl gv_Name (.inr (by kernel_rfl)) (m := 5) (by decide) (Evs.cons ok ((slc_map V.bytes a (some (-d)) none) ▸ Ev.sliceTup ok (Ev.labels ok labK (Ev.name ok 0 rfl rfl)) (EvP.at (Ev.neg (Ev.name ok 1 rfl rfl))) EvP.no) Evs.nil rfl) (fn_NameTG g2)) Evs.nil rfl) rfl) (by simp))
end
def choR (a : Lbl) (o : Option Lbl) (b : Bool) : Res := match o with
  | none => .ok (.name a)
  | some o => if 0 < o.length then (if b then .ok (.name (relL a o)) else derR a o) else .ok (.name a)
def optV : Option Lbl → V
  | none => .none
  | some o => .name o
theorem Op2.eqB {g : GI} {n : Nat} {a b : Bool} (hn : 1 ≤ n) : Op2 g n (compareOp .NotEq) (.bool a) (.bool b) (.ok (.bool (a != b))) := by
  have := Op2.neV (g := g) (n := n) (d := .bool a) (e := .bool b) 0 (by simp [V.dep]) (by decide) hn rfl
  have e : (!V.eqv (.bool a) (.bool b)) = (a != b) := by simp only [V.eqv]; rfl
  rwa [e] at this
def underB (one two : Lbl) : Bool := if (decide ((one.length : Int) < (two.length : Int)) || (absL one != absL two)) = true then false else decide ((slc one (some ((one.length : Int) - (two.length : Int))) none).map blow = two.map blow)
def joinV (one two : Lbl) : V := if (absL one && decide ((0 : Int) < (two.length : Int))) = true then .int 1 else if 255 < wire one + wire two then .int 2 else .list ((one ++ two).map .bytes)
def lessL (one two : Lbl) : Lbl := if underB one two = true then slc one none (some ((one.length : Int) - (two.length : Int))) else one
def moreV (one two : Lbl) : V := if absL one = true then .list (one.map .bytes) else joinV one two
section
variable {prog : Program} {w : World} {H0 : Heap} {p : Program} {loose : List Str} {mg mb : Str → Option Value}
theorem fn_cho {a : Lbl} {o : Option Lbl} {b : Bool} {ds dx : List V} {xs : List Value} (ha : Good a) (ho : ∀ q, o = some q → Good q) (hc : ds ++ dx = [.name a, optV o, .bool b]) (hx : (dx = [] ∧ xs = []) ∨ (dx = [.bool true] ∧ xs = [.bool true]) ∨ (dx = [.none, .bool true] ∧ xs = [.none, .bool true])) :
    Fn (gi prog w H0 p loose mg mb) 8 (.ref 337) ds (choR a o b) := by
  have hlen : ds.length + dx.length = 3 := by rw [← List.length_append, hc]; rfl
  refine Fn.intro (n := 7) (names := ["self", "origin", "relativize"]) (loc := []) (xs := xs) (dx := dx) (by rfl) (by kernel_rfl) (fun vs s hv hK => ?bind) (fun _ _ => ?dfl) (by decide +kernel) (by simp only [List.length_cons, List.length_nil]; omega) (by decide +kernel) (by decide +kernel) ?_
  case dfl => rcases hx with ⟨rfl, rfl⟩ | ⟨rfl, rfl⟩ | ⟨rfl, rfl⟩ <;> simp [RepL, Rep]
  case bind =>
    rcases hx with ⟨rfl, rfl⟩ | ⟨rfl, rfl⟩ | ⟨rfl, rfl⟩
    · have : vs.length = 3 := by rw [hv]; simpa using hlen
      match vs, this with
      | [x, y, z], _ => exact BindsTo.of_defaults rfl (hK _ _ (by rfl)) rfl rfl rfl
    · have : vs.length = 2 := by rw [hv]; simpa using hlen
      match vs, this with
      | [x, y], _ => exact BindsTo.of_defaults rfl (hK _ _ (by rfl)) rfl rfl rfl
    · have : vs.length = 1 := by rw [hv]; simpa using hlen
      match vs, this with
      | [x], _ => exact BindsTo.of_defaults rfl (hK _ _ (by rfl)) rfl rfl rfl
  rw [hc]
  rintro ⟨⟨sc, lo, gl, ce, qu, fu, co, fr, bu⟩, A, st, ou, hE, xs', ys'⟩ ok hs hx' hy hc'
  dsimp only at hs hx' hy hc'
  subst hs hx' hy hc'
  cases o with
  | none =>
    refine Ex.ite ok (c := false) (Te.bool (TAll.and_cons (a := false) (b := true) ok (Te.cmp ok (Ev.name ok 1 rfl rfl) Ev.cnone (Op2.isNotNone rfl)) fun h => nomatch h)) (fun h => nomatch h) (fun _ => Ex.retV ok (Ev.name ok 0 rfl rfl))
  | some q =>
    have gq := ho q rfl
    have lq := gq.len
    refine Ex.ite ok (c := true && decide ((0 : Int) < ((q.length : Nat) : Int))) (Te.bool (TAll.and_cons ok (Te.cmp ok (Ev.name ok 1 rfl rfl) Ev.cnone (Op2.isNotNone rfl)) fun _ => TAll.and1 ok (Te.cmp ok (Ev.callB ok rfl gv_len kept_builtin (Evs.cons ok (Ev.name ok 1 rfl rfl) Evs.nil rfl) (bi_len (by decide) (by omega))) Ev.cint Op2.gt))) (fun h => ?_) (fun h => ?_)
    · have hq : 0 < q.length := by simpa using h
      unfold choR; simp only [if_pos hq]
      refine Ex.ite ok (Te.val (Ev.name ok 2 rfl rfl)) (fun h => ?_) (fun h => ?_)
      · subst h
        exact Ex.retR ok (Ev.meth ok relM (m := 6) (by decide) (Ev.name ok 0 rfl rfl) (Evs.cons ok (Ev.name ok 1 rfl rfl) Evs.nil rfl) (fn_rel ha gq))
      · subst h
        exact Ex.retR ok (Ev.meth ok derM (m := 7) (by decide) (Ev.name ok 0 rfl rfl) (Evs.cons ok (Ev.name ok 1 rfl rfl) Evs.nil rfl) (fn_der ha gq))
    · have hq : ¬ 0 < q.length := by simpa using h
      unfold choR; simp only [if_neg hq]
      exact Ex.retV ok (Ev.name ok 0 rfl rfl)
theorem gv_small : GV (gi prog w H0 p loose mg mb) "_law_small" (.ref 451) := GV.glob (by kernel_rfl) (by rfl)
theorem gv_under : GV (gi prog w H0 p loose mg mb) "_law_under" (.ref 480) := GV.glob (by kernel_rfl) (by rfl)
theorem gv_join : GV (gi prog w H0 p loose mg mb) "_law_join" (.ref 487) := GV.glob (by kernel_rfl) (by rfl)
theorem fn_under {one two : Lbl} (h1 : Good one) (h2 : Good two) : Fn (gi prog w H0 p loose mg mb) 3 (.ref 480) [.list (one.map .bytes), .list (two.map .bytes)] (.ok (.bool (underB one two))) := by
  have l1 := h1.len
  have l2 := h2.len
  refine Fn.intro (n := 2) (names := ["one", "two"]) (loc := []) (xs := []) (dx := []) (by rfl) (by kernel_rfl) (fun vs s hv _ => bind2 (fun v u => by rfl) vs s hv) (fun _ _ => by simp only [RepL]) (by decide +kernel) rfl (by decide +kernel) (by decide +kernel) ?_
  rintro ⟨⟨sc, lo, gl, ce, qu, fu, co, fr, bu⟩, A, st, ou, hE, xs', ys'⟩ ok hs hx' hy hc'
  dsimp only at hs hx' hy hc'
  subst hs hx' hy hc'
  have e1 : ((one.map V.bytes).length : Int) = (one.length : Int) := by simp
  have e2 : ((two.map V.bytes).length : Int) = (two.length : Int) := by simp
  refine Ex.ifR ok (c := decide (((one.map V.bytes).length : Int) < ((two.map V.bytes).length : Int)) || (absL one != absL two)) (Te.bool (TAll.or_cons ok (Te.cmp ok (Ev.callB ok rfl gv_len kept_builtin (Evs.cons ok (Ev.name ok 0 rfl rfl) Evs.nil rfl) Bi.lenList) (Ev.callB ok rfl gv_len kept_builtin (Evs.cons ok (Ev.name ok 1 rfl rfl) Evs.nil rfl) Bi.lenList) Op2.lt) fun _ => TAll.or1 ok (Te.cmp ok (Ev.call ok rfl gv_absolute (.inr (by kernel_rfl)) (m := 2) (by decide) (Evs.cons ok (Ev.name ok 0 rfl rfl) Evs.nil rfl) fn_absolute) (Ev.call ok rfl gv_absolute (.inr (by kernel_rfl)) (m := 2) (by decide) (Evs.cons ok (Ev.name ok 1 rfl rfl) Evs.nil rfl) fn_absolute) (Op2.eqB (by decide))))) (fun h => ?_) (fun h => ?_)
  · rw [e1, e2] at h
    unfold underB; rw [if_pos h]
    exact Ex.retN ok Ev.cbool retO
  · rw [e1, e2] at h
    unfold underB; rw [if_neg (by rw [h]; decide)]
    have es := slc_map V.bytes one (some ((one.length : Int) - (two.length : Int))) none
    have hsl : Good (slc one (some ((one.length : Int) - (two.length : Int))) none) := by
      have h' : ¬ one.length < two.length := by simp at h; omega
      have : ((one.length : Int) - (two.length : Int)) = ((one.length - two.length : Nat) : Int) := by omega
      rw [this, slc_hi _ _ (by omega)]; exact h1.drop _
    have hll := hsl.len
    have hf : ∀ {q : Lbl}, Good q → q.length ≤ 1000 ∧ ∀ b ∈ q, b.length ≤ 1000 := fun {q} h => ⟨by have := h.len; omega, fun b hb => by have := h.mem hb; omega⟩
    have e3 : decide ((slc one (some ((one.length : Int) - (two.length : Int))) none).map blow = two.map blow) = V.eqv (.list (((slc one (some ((one.length : Int) - (two.length : Int))) none).map blow).map .bytes)) (.list ((two.map blow).map .bytes)) := by simp only [V.eqv, eqv_bytes]
    rw [e3]
    refine Ex.retV ok (Ev.cmp ok (Ev.call ok rfl gv_small (.inr (by kernel_rfl)) (m := 1) (by decide) (Evs.cons ok ?_ Evs.nil rfl) (fn_small (hf hsl).1 (hf hsl).2)) (Ev.call ok rfl gv_small (.inr (by kernel_rfl)) (m := 1) (by decide) (Evs.cons ok (Ev.name ok 1 rfl rfl) Evs.nil rfl) (fn_small (hf h2).1 (hf h2).2)) (Op2.eqV 1 (by simp only [V.dep, dep_bytes]; decide) (by decide) (by decide) (by simp only [V.sup, sup_bytes])))
    rw [← es, ← e1, ← e2]
    exact Ev.sliceList ok (Ev.name ok 0 rfl rfl) (EvP.at (Ev.bin ok (Ev.callB ok rfl gv_len kept_builtin (Evs.cons ok (Ev.name ok 0 rfl rfl) Evs.nil rfl) Bi.lenList) (Ev.callB ok rfl gv_len kept_builtin (Evs.cons ok (Ev.name ok 1 rfl rfl) Evs.nil rfl) Bi.lenList) Op2.sub)) EvP.no
theorem fn_join {one two : Lbl} (h1 : Good one) (h2 : Good two) : Fn (gi prog w H0 p loose mg mb) 3 (.ref 487) [.list (one.map .bytes), .list (two.map .bytes)] (.ok (joinV one two)) := by
  have l1 := h1.len
  have l2 := h2.len
  refine Fn.intro (n := 2) (names := ["one", "two"]) (loc := []) (xs := []) (dx := []) (by rfl) (by kernel_rfl) (fun vs s hv _ => bind2 (fun v u => by rfl) vs s hv) (fun _ _ => by simp only [RepL]) (by decide +kernel) rfl (by decide +kernel) (by decide +kernel) ?_
  rintro ⟨⟨sc, lo, gl, ce, qu, fu, co, fr, bu⟩, A, st, ou, hE, xs', ys'⟩ ok hs hx' hy hc'
  dsimp only at hs hx' hy hc'
  subst hs hx' hy hc'
  have e2 : ((two.map V.bytes).length : Int) = (two.length : Int) := by simp
  refine Ex.ifR ok (c := absL one && decide ((0 : Int) < ((two.map V.bytes).length : Int))) (Te.bool (TAll.and_cons ok (Te.val (Ev.call ok rfl gv_absolute (.inr (by kernel_rfl)) (m := 2) (by decide) (Evs.cons ok (Ev.name ok 0 rfl rfl) Evs.nil rfl) fn_absolute)) fun _ => TAll.and1 ok (Te.cmp ok (Ev.callB ok rfl gv_len kept_builtin (Evs.cons ok (Ev.name ok 1 rfl rfl) Evs.nil rfl) Bi.lenList) Ev.cint Op2.gt))) (fun h => ?_) (fun h => ?_)
  · rw [e2] at h
    unfold joinV; rw [if_pos h]
    exact Ex.retN ok Ev.cint retO
  rw [e2] at h
  unfold joinV; rw [if_neg (by rw [h]; decide)]
  refine Ex.ifR ok (Te.cmp ok (Ev.bin ok (Ev.call ok rfl gv_wire (.inr (by kernel_rfl)) (m := 1) (by decide) (Evs.cons ok (Ev.name ok 0 rfl rfl) Evs.nil rfl) fn_wire) (Ev.call ok rfl gv_wire (.inr (by kernel_rfl)) (m := 1) (by decide) (Evs.cons ok (Ev.name ok 1 rfl rfl) Evs.nil rfl) fn_wire) Op2.add) Ev.cint Op2.gt) (fun h => ?_) (fun h => ?_)
  · rw [if_pos (by simpa using h)]
    exact Ex.retN ok Ev.cint retO
  · rw [if_neg (by simpa using h), List.map_append]
    exact Ex.retV ok (Ev.bin ok (Ev.name ok 0 rfl rfl) (Ev.name ok 1 rfl rfl) (Op2.addL (by simp only [List.length_map]; exact small_line (by omega))))
theorem fn_less {one two : Lbl} (h1 : Good one) (h2 : Good two) : Fn (gi prog w H0 p loose mg mb) 4 (.ref 494) [.list (one.map .bytes), .list (two.map .bytes)] (.ok (.list ((lessL one two).map .bytes))) := by
  refine Fn.intro (n := 3) (names := ["one", "two"]) (loc := []) (xs := []) (dx := []) (by rfl) (by kernel_rfl) (fun vs s hv _ => bind2 (fun v u => by rfl) vs s hv) (fun _ _ => by simp only [RepL]) (by decide +kernel) rfl (by decide +kernel) (by decide +kernel) ?_
  rintro ⟨⟨sc, lo, gl, ce, qu, fu, co, fr, bu⟩, A, st, ou, hE, xs', ys'⟩ ok hs hx' hy hc'
  dsimp only at hs hx' hy hc'
  subst hs hx' hy hc'
  have e1 : ((one.map V.bytes).length : Int) = (one.length : Int) := by simp
  have e2 : ((two.map V.bytes).length : Int) = (two.length : Int) := by simp
  refine Ex.ifR ok (Te.val (Ev.call ok rfl gv_under (.inr (by kernel_rfl)) (m := 3) (by decide) (Evs.cons ok (Ev.name ok 0 rfl rfl) (Evs.cons ok (Ev.name ok 1 rfl rfl) Evs.nil rfl) rfl) (fn_under h1 h2))) (fun h => ?_) (fun h => ?_)
  · unfold lessL; rw [if_pos h, ← slc_map V.bytes, ← e1, ← e2]
    exact Ex.retN ok (Ev.sliceList ok (Ev.name ok 0 rfl rfl) EvP.no (EvP.at (Ev.bin ok (Ev.callB ok rfl gv_len kept_builtin (Evs.cons ok (Ev.name ok 0 rfl rfl) Evs.nil rfl) Bi.lenList) (Ev.callB ok rfl gv_len kept_builtin (Evs.cons ok (Ev.name ok 1 rfl rfl) Evs.nil rfl) Bi.lenList) Op2.sub))) retO
  · unfold lessL; rw [if_neg (by rw [h]; decide)]
    exact Ex.retV ok (Ev.name ok 0 rfl rfl)
theorem fn_more {one two : Lbl} (h1 : Good one) (h2 : Good two) : Fn (gi prog w H0 p loose mg mb) 4 (.ref 501) [.list (one.map .bytes), .list (two.map .bytes)] (.ok (moreV one two)) := by
  refine Fn.intro (n := 3) (names := ["one", "two"]) (loc := []) (xs := []) (dx := []) (by rfl) (by kernel_rfl) (fun vs s hv _ => bind2 (fun v u => by rfl) vs s hv) (fun _ _ => by simp only [RepL]) (by decide +kernel) rfl (by decide +kernel) (by decide +kernel) ?_
  rintro ⟨⟨sc, lo, gl, ce, qu, fu, co, fr, bu⟩, A, st, ou, hE, xs', ys'⟩ ok hs hx' hy hc'
  dsimp only at hs hx' hy hc'
  subst hs hx' hy hc'
  refine Ex.ifR ok (Te.val (Ev.call ok rfl gv_absolute (.inr (by kernel_rfl)) (m := 2) (by decide) (Evs.cons ok (Ev.name ok 0 rfl rfl) Evs.nil rfl) fn_absolute)) (fun h => ?_) (fun h => ?_)
  · unfold moreV; rw [if_pos h]
    exact Ex.retN ok (Ev.name ok 0 rfl rfl) retO
  · unfold moreV; rw [if_neg (by rw [h]; decide)]
    exact Ex.retV ok (Ev.call ok rfl gv_join (.inr (by kernel_rfl)) (m := 3) (by decide) (Evs.cons ok (Ev.name ok 0 rfl rfl) (Evs.cons ok (Ev.name ok 1 rfl rfl) Evs.nil rfl) rfl) (fn_join h1 h2))
end
def AsgO (R : V → En) (r : Res) (o : Out) : Prop := (∃ d, r = .ok d ∧ o = .next (R d)) ∨ (∃ c ρ', r = .exc c ∧ o = .exc c ρ')
theorem Ex.asgn {g : GI} {f : Fm} {n : Nat} {ρ : En} {x : Str} {xp pos : Pos} {e : Expr} {r : Res} {R : V → En} (ok : FmOk g f n) (i : Nat) (hx : f.xs[i]? = some x) (he : Ev g f ρ e r) (hR : ∀ d, ρ.set i (some (.sh d)) = R d)
    (hs : swapsWith e (some (.Name x xp)) pos.line f.env = pure false := by rfl) : Ex g f ρ [.Assign [.Name x xp] e pos] (AsgO R r) :=
  Ex.assignR ok i hx he (fun d h => Ex.nil (.inl ⟨d, h, by rw [hR]⟩)) (fun c h => .inr ⟨c, ρ, h, rfl⟩) hs
def d9R (a b : Lbl) : Res := match derR a b with
  | .ok (.name c) => .ok (.name (relL c b))
  | r => r
def deedR (d : Int) (a b : Lbl) : Res :=
  if d = 0 then conR a b else if d = 1 then conR a b else if d = 2 then .ok (.name (relL a b)) else if d = 3 then .ok (.name (relL a b)) else if d = 4 then derR a b
  else if d = 5 then choR a (some b) true else if d = 6 then choR a (some b) false else if d = 7 then choR a (some b) true else if d = 8 then derR (relL a b) b else if d = 9 then d9R a b else parR a
def codeOf : Value → Int
  | .ref 118 => 1
  | .ref 94 => 2
  | .ref 130 => 3
  | _ => 0
def resV : Res → V
  | .ok (.name ls) => .list (ls.map .bytes)
  | .ok _ => .none
  | .exc c => .int (codeOf c)
def Shp (r : Res) : Prop := (∃ ls : Lbl, r = .ok (.name ls) ∧ ls.length ≤ 1000) ∨ r = .exc (.ref 118) ∨ r = .exc (.ref 94) ∨ r = .exc (.ref 130)
theorem relL_good {a b : Lbl} (ha : Good a) : Good (relL a b) := by
  unfold relL; split
  · exact ha.slc_upto _
  · exact ha
theorem conR_shp {a b : Lbl} (ha : Good a) (hb : Good b) : Shp (conR a b) := by
  have la := ha.len; have lb := hb.len
  unfold conR nameR
  split
  · exact .inr (.inl rfl)
  · split
    · exact .inr (.inr (.inl rfl))
    · exact .inl ⟨_, rfl, by rw [List.length_append]; omega⟩
theorem derR_shp {a b : Lbl} (ha : Good a) (hb : Good b) : Shp (derR a b) := by
  have la := ha.len
  unfold derR; split
  · exact conR_shp ha hb
  · exact .inl ⟨_, rfl, by omega⟩
theorem name_shp {a : Lbl} (ha : Good a) : Shp (.ok (.name a)) := .inl ⟨_, rfl, by have := ha.len; omega⟩
theorem choR_shp {a b : Lbl} {t : Bool} (ha : Good a) (hb : Good b) : Shp (choR a (some b) t) := by
  unfold choR
  simp only
  split
  · cases t
    · exact derR_shp ha hb
    · exact name_shp (relL_good ha)
  · exact name_shp ha
theorem parR_shp {a : Lbl} (ha : Good a) : Shp (parR a) := by
  unfold parR; split
  · exact .inr (.inr (.inr rfl))
  · exact name_shp ha.tail1
theorem deedR_shp {d : Int} {a b : Lbl} (ha : Good a) (hb : Good b) (h9 : d = 9 → ∃ c, Good c ∧ derR a b = .ok (.name c)) : Shp (deedR d a b) := by
  unfold deedR
  split; · exact conR_shp ha hb
  split; · exact conR_shp ha hb
  split; · exact name_shp (relL_good ha)
  split; · exact name_shp (relL_good ha)
  split; · exact derR_shp ha hb
  split; · exact choR_shp ha hb
  split; · exact choR_shp ha hb
  split; · exact choR_shp ha hb
  split; · exact derR_shp (relL_good ha) hb
  split
  · rename_i h
    obtain ⟨c, gc, e⟩ := h9 h
    unfold d9R; rw [e]
    exact name_shp (relL_good gc)
  · exact parR_shp ha
section
variable {prog : Program} {w : World} {H0 : Heap} {p : Program} {loose : List Str} {mg mb : Str → Option Value}
theorem exm11 : exmOne (gi prog w H0 p loose mg mb).K (.ref 118) (.ref 118) = some true := by kernel_rfl
theorem exm21 : exmOne (gi prog w H0 p loose mg mb).K (.ref 94) (.ref 118) = some false := by kernel_rfl
theorem exm22 : exmOne (gi prog w H0 p loose mg mb).K (.ref 94) (.ref 94) = some true := by kernel_rfl
theorem exm31 : exmOne (gi prog w H0 p loose mg mb).K (.ref 130) (.ref 118) = some false := by kernel_rfl
theorem exm32 : exmOne (gi prog w H0 p loose mg mb).K (.ref 130) (.ref 94) = some false := by kernel_rfl
theorem exm33 : exmOne (gi prog w H0 p loose mg mb).K (.ref 130) (.ref 130) = some true := by kernel_rfl
theorem sel1 : selfFirst (gi prog w H0 p loose mg mb).K 363 = true := by kernel_rfl
theorem fn_try {d : Int} {a b : Lbl} (ha : Good a) (hb : Good b) (h9 : d = 9 → ∃ c, Good c ∧ derR a b = .ok (.name c)) : Fn (gi prog w H0 p loose mg mb) 9 (.ref 508) [.int d, .name a, .name b] (.ok (resV (deedR d a b))) := by
  have hsh := deedR_shp ha hb h9
  refine Fn.introT (n := 8) (names := ["deed", "x", "y"]) (loc := ["z"]) (xs := []) (dx := []) (by rfl) (by kernel_rfl) (fun vs s hv _ => ?bind) (fun _ _ => by simp only [RepL]) (by decide +kernel) rfl (by decide +kernel) (by decide +kernel) ?_
  case bind =>
    match vs, hv with
    | [a, b, c], _ => exact BindsTo.of_eq rfl
  rintro ⟨⟨sc, lo, gl, ce, qu, fu, co, fr, bu⟩, A, st, ou, hE, xs', ys'⟩ ok hs hx' hy hc' hst hfr
  dsimp only at hs hx' hy hc' hst hfr
  subst hs hx' hy hc'
  let R : V → En := fun z => [some (.sh (.int d)), some (.sh (.name a)), some (.sh (.name b)), some (.sh z)]
  refine Ex.try (O₁ := AsgO R (deedR d a b)) ok hst hfr ?body (fun ρ' h => ?_) (fun o h h1 h2 => ?_) (fun c ρ' h => ?_)
  case body =>
    refine Ex.ite ok (Te.cmp ok (Ev.name ok 0 rfl rfl) Ev.cint Op2.eq) (fun h => ?_) (fun h => ?_)
    · have e : deedR d a b = conR a b := by unfold deedR; rw [if_pos (by simpa using h)]
      rw [e]; exact Ex.asgn ok 3 rfl (Ev.meth ok conM (m := 6) (by decide) (Ev.name ok 1 rfl rfl) (Evs.cons ok (Ev.name ok 2 rfl rfl) Evs.nil rfl) (fn_con ha hb)) (fun d => rfl)
    have n0 : ¬ d = 0 := by simpa using h
    refine Ex.ite ok (Te.cmp ok (Ev.name ok 0 rfl rfl) Ev.cint Op2.eq) (fun h => ?_) (fun h => ?_)
    · have e : deedR d a b = conR a b := by unfold deedR; rw [if_neg n0, if_pos (by simpa using h)]
      rw [e]; exact Ex.asgn ok 3 rfl (Ev.bin ok (Ev.name ok 1 rfl rfl) (Ev.name ok 2 rfl rfl) (Op2.binName (m := 7) (by decide) sel1 (by kernel_rfl) (by kernel_rfl) (fn_add ha hb) conR_name)) (fun d => rfl)
    have n1 : ¬ d = 1 := by simpa using h
    refine Ex.ite ok (Te.cmp ok (Ev.name ok 0 rfl rfl) Ev.cint Op2.eq) (fun h => ?_) (fun h => ?_)
    · have e : deedR d a b = .ok (.name (relL a b)) := by unfold deedR; rw [if_neg n0, if_neg n1, if_pos (by simpa using h)]
      rw [e]; exact Ex.asgn ok 3 rfl (Ev.meth ok relM (m := 6) (by decide) (Ev.name ok 1 rfl rfl) (Evs.cons ok (Ev.name ok 2 rfl rfl) Evs.nil rfl) (fn_rel ha hb)) (fun d => rfl)
    have n2 : ¬ d = 2 := by simpa using h
    refine Ex.ite ok (Te.cmp ok (Ev.name ok 0 rfl rfl) Ev.cint Op2.eq) (fun h => ?_) (fun h => ?_)
    · have e : deedR d a b = .ok (.name (relL a b)) := by unfold deedR; rw [if_neg n0, if_neg n1, if_neg n2, if_pos (by simpa using h)]
      rw [e]; exact Ex.asgn ok 3 rfl (Ev.bin ok (Ev.name ok 1 rfl rfl) (Ev.name ok 2 rfl rfl) (Op2.binName (m := 7) (by decide) sel1 (by kernel_rfl) (by kernel_rfl) (fn_subm ha hb) (fun d h => by injection h with h; exact ⟨_, h.symm⟩))) (fun d => rfl)
    have n3 : ¬ d = 3 := by simpa using h
    refine Ex.ite ok (Te.cmp ok (Ev.name ok 0 rfl rfl) Ev.cint Op2.eq) (fun h => ?_) (fun h => ?_)
    · have e : deedR d a b = derR a b := by unfold deedR; rw [if_neg n0, if_neg n1, if_neg n2, if_neg n3, if_pos (by simpa using h)]
      rw [e]; exact Ex.asgn ok 3 rfl (Ev.meth ok derM (m := 7) (by decide) (Ev.name ok 1 rfl rfl) (Evs.cons ok (Ev.name ok 2 rfl rfl) Evs.nil rfl) (fn_der ha hb)) (fun d => rfl)
    have n4 : ¬ d = 4 := by simpa using h
    refine Ex.ite ok (Te.cmp ok (Ev.name ok 0 rfl rfl) Ev.cint Op2.eq) (fun h => ?_) (fun h => ?_)
    · have e : deedR d a b = choR a (some b) true := by unfold deedR; rw [if_neg n0, if_neg n1, if_neg n2, if_neg n3, if_neg n4, if_pos (by simpa using h)]
      rw [e]; exact Ex.asgn ok 3 rfl (Ev.meth ok choM (m := 8) (by decide) (Ev.name ok 1 rfl rfl) (Evs.cons ok (Ev.name ok 2 rfl rfl) (Evs.cons ok Ev.cbool Evs.nil rfl) rfl) (fn_cho (o := some b) (dx := []) (xs := []) ha (fun q h => by injection h with h; subst h; exact hb) rfl (.inl ⟨rfl, rfl⟩))) (fun d => rfl)
    have n5 : ¬ d = 5 := by simpa using h
    refine Ex.ite ok (Te.cmp ok (Ev.name ok 0 rfl rfl) Ev.cint Op2.eq) (fun h => ?_) (fun h => ?_)
    · have e : deedR d a b = choR a (some b) false := by unfold deedR; rw [if_neg n0, if_neg n1, if_neg n2, if_neg n3, if_neg n4, if_neg n5, if_pos (by simpa using h)]
      rw [e]; exact Ex.asgn ok 3 rfl (Ev.meth ok choM (m := 8) (by decide) (Ev.name ok 1 rfl rfl) (Evs.cons ok (Ev.name ok 2 rfl rfl) (Evs.cons ok Ev.cbool Evs.nil rfl) rfl) (fn_cho (o := some b) (dx := []) (xs := []) ha (fun q h => by injection h with h; subst h; exact hb) rfl (.inl ⟨rfl, rfl⟩))) (fun d => rfl)
    have n6 : ¬ d = 6 := by simpa using h
    refine Ex.ite ok (Te.cmp ok (Ev.name ok 0 rfl rfl) Ev.cint Op2.eq) (fun h => ?_) (fun h => ?_)
    · have e : deedR d a b = choR a (some b) true := by unfold deedR; rw [if_neg n0, if_neg n1, if_neg n2, if_neg n3, if_neg n4, if_neg n5, if_neg n6, if_pos (by simpa using h)]
      rw [e]; exact Ex.asgn ok 3 rfl (Ev.meth ok choM (m := 8) (by decide) (Ev.name ok 1 rfl rfl) (Evs.cons ok (Ev.name ok 2 rfl rfl) Evs.nil rfl) (fn_cho (o := some b) (dx := [.bool true]) (xs := [.bool true]) ha (fun q h => by injection h with h; subst h; exact hb) rfl (.inr (.inl ⟨rfl, rfl⟩)))) (fun d => rfl)
    have n7 : ¬ d = 7 := by simpa using h
    refine Ex.ite ok (Te.cmp ok (Ev.name ok 0 rfl rfl) Ev.cint Op2.eq) (fun h => ?_) (fun h => ?_)
    · have e : deedR d a b = derR (relL a b) b := by unfold deedR; rw [if_neg n0, if_neg n1, if_neg n2, if_neg n3, if_neg n4, if_neg n5, if_neg n6, if_neg n7, if_pos (by simpa using h)]
      rw [e]; exact Ex.asgn ok 3 rfl (Ev.meth ok derM (m := 7) (by decide) (Ev.meth ok relM (m := 6) (by decide) (Ev.name ok 1 rfl rfl) (Evs.cons ok (Ev.name ok 2 rfl rfl) Evs.nil rfl) (fn_rel ha hb)) (Evs.cons ok (Ev.name ok 2 rfl rfl) Evs.nil rfl) (fn_der (relL_good ha) hb)) (fun d => rfl)
    have n8 : ¬ d = 8 := by simpa using h
    refine Ex.ite ok (Te.cmp ok (Ev.name ok 0 rfl rfl) Ev.cint Op2.eq) (fun h => ?_) (fun h => ?_)
    · have h : d = 9 := by simpa using h
      obtain ⟨c, gc, ec⟩ := h9 h
      have e : deedR d a b = .ok (.name (relL c b)) := by unfold deedR; rw [if_neg n0, if_neg n1, if_neg n2, if_neg n3, if_neg n4, if_neg n5, if_neg n6, if_neg n7, if_neg n8, if_pos h]; unfold d9R; rw [ec]
      rw [e]; exact Ex.asgn ok 3 rfl (Ev.meth ok relM (m := 6) (by decide) (Ev.meth ok derM (m := 7) (by decide) (Ev.name ok 1 rfl rfl) (Evs.cons ok (Ev.name ok 2 rfl rfl) Evs.nil rfl) (ec ▸ fn_der ha hb)) (Evs.cons ok (Ev.name ok 2 rfl rfl) Evs.nil rfl) (fn_rel gc hb)) (fun d => rfl)
    have n9 : ¬ d = 9 := by simpa using h
    have e : deedR d a b = parR a := by unfold deedR; rw [if_neg n0, if_neg n1, if_neg n2, if_neg n3, if_neg n4, if_neg n5, if_neg n6, if_neg n7, if_neg n8, if_neg n9]
    rw [e]; exact Ex.asgn ok 3 rfl (Ev.meth0 ok parM (m := 7) (by decide) (Ev.name ok 1 rfl rfl) (fn_par ha)) (fun d => rfl)
  · rcases h with ⟨z, hz, h⟩ | ⟨c, ρ'', _, h⟩
    · injection h with h; subst h
      rcases hsh with ⟨ls, e, hl⟩ | e | e | e <;> rw [hz] at e <;> first | (cases e; done) | skip
      injection e with e; subst e
      rw [hz]
      exact Ex.retV ok (Ev.callB ok rfl gv_list kept_type (Evs.cons ok (Ev.labels ok labK (Ev.name ok 3 rfl rfl)) Evs.nil rfl) Bi.listT)
    · cases h
  · rcases h with ⟨z, hz, h⟩ | ⟨c, ρ'', _, h⟩
    · exact (h1 _ h).elim
    · exact (h2 _ _ h).elim
  · rcases h with ⟨z, hz, h⟩ | ⟨c', ρ'', hz, h⟩
    · cases h
    · injection h with h1 h2; subst h1
      rw [hz]
      refine ⟨codeOf c, ?_, retO⟩
      rcases hsh with ⟨ls, e, hl⟩ | e | e | e <;> rw [hz] at e <;> first | (cases e; done) | skip
      · injection e with e; subst e
        exact .hit (.inl excAbs.ex) rfl rfl exm11
      · injection e with e; subst e
        exact .skip (.inl excAbs.ex) rfl rfl exm21 (.hit (.inl excTooLong.ex) rfl rfl exm22)
      · injection e with e; subst e
        exact .skip (.inl excAbs.ex) rfl rfl exm31 (.skip (.inl excTooLong.ex) rfl rfl exm32 (.hit (.inl excNoParent.ex) rfl rfl exm33))
end
def lv (l : Lbl) : V := .list (l.map .bytes)
def tv (t : Int × V) : V := .tup [.int t.1, t.2]
def wantL (one two : Lbl) : List (Int × V) :=
  [(0, joinV one two), (1, joinV one two), (4, moreV one two)] ++
  (if decide (((two.map V.bytes).length : Int) = 0) = true then [(5, lv one), (6, lv one), (7, lv one)]
   else [(2, lv (lessL one two)), (3, lv (lessL one two)), (5, lv (lessL one two)), (7, lv (lessL one two)), (6, moreV one two)] ++
     (if underB one two = true then [(8, .list ((lessL one two).map .bytes ++ two.map .bytes))] else []) ++
     (if (!absL one && decide (wire one + wire two ≤ 255)) = true then [(9, lv one)] else []))
structure PairOk (a b : Lbl) : Prop where
  r : ∀ t ∈ wantL a b, resV (deedR t.1 a b) = t.2 ∧ (t.1 = 9 → ∃ c, Good c ∧ derR a b = .ok (.name c)) ∧ V.sup t.2 t.2 = true ∧ V.eqv t.2 t.2 = true ∧ V.dep t.2 ≤ 1
def cutR (ls : Lbl) (d : Int) : V := if 0 ≤ d ∧ d ≤ (ls.length : Int) then .list [lv (ls.take (ls.length - d.toNat)), lv (ls.drop (ls.length - d.toNat)), lv ls] else .int 1
theorem sup_self : ∀ l : Lbl, V.sup (lv l) (lv l) = true := fun l => by simp only [lv, V.sup, sup_bytes]
theorem eqv_self : ∀ l : Lbl, V.eqv (lv l) (lv l) = true := fun l => by simp [lv, V.eqv, eqv_bytes]
theorem dep_self : ∀ l : Lbl, V.dep (lv l) ≤ 1 := fun l => by simp only [lv, V.dep, dep_bytes]; decide
theorem splR_ok {ls : Lbl} {d : Int} (h : 0 ≤ d ∧ d ≤ (ls.length : Int)) : splR ls d = .ok (.tup [.name (ls.take (ls.length - d.toNat)), .name (ls.drop (ls.length - d.toNat))]) := by
  unfold splR
  by_cases h0 : d = 0
  · subst h0; rw [if_pos rfl]; simp
  rw [if_neg h0]
  by_cases h1 : d = (ls.length : Int)
  · subst h1; rw [if_pos rfl]; simp
  rw [if_neg h1, if_neg (by simp; omega)]
  have e : d = ((d.toNat : Nat) : Int) := by omega
  have k0 : ¬ d.toNat = 0 := by omega
  generalize d.toNat = k at *
  subst e
  rw [slc_upto, slc_from, if_neg k0]
theorem splR_no {ls : Lbl} {d : Int} (h : ¬ (0 ≤ d ∧ d ≤ (ls.length : Int))) : splR ls d = .exc (.type "ValueError") := by
  unfold splR
  rw [if_neg (by omega), if_neg (by omega), if_pos (by simp; omega)]
theorem con_parts {ls : Lbl} (h : Good ls) (k : Nat) : conR (ls.take k) (ls.drop k) = .ok (.name ls) := by
  unfold conR
  rw [if_neg]
  · rw [List.take_append_drop]; exact nameR_ok h.small
  · intro q
    simp only [Bool.and_eq_true, decide_eq_true_eq] at q
    obtain ⟨q1, q2⟩ := q
    rw [List.length_drop] at q2
    have hk : k < ls.length := by omega
    unfold absL at q1
    have q1 : (ls.take k).getLast? = some [] := by simpa using q1
    have hm : ([] : List UInt8) ∈ ls.dropLast := by
      have := List.mem_of_getLast? q1
      rw [List.dropLast_eq_take]
      exact (List.take_subset_take_left ls (by omega : k ≤ ls.length - 1)) this
    have := (h.init _ hm).1
    simp at this
section
variable {prog : Program} {w : World} {H0 : Heap} {p : Program} {loose : List Str} {mg mb : Str → Option Value}
theorem gv_less : GV (gi prog w H0 p loose mg mb) "_law_less" (.ref 494) := GV.glob (by kernel_rfl) (by rfl)
theorem gv_more : GV (gi prog w H0 p loose mg mb) "_law_more" (.ref 501) := GV.glob (by kernel_rfl) (by rfl)
theorem gv_try : GV (gi prog w H0 p loose mg mb) "_law_try" (.ref 508) := GV.glob (by kernel_rfl) (by rfl)
theorem gv_cut : GV (gi prog w H0 p loose mg mb) "_law_cut" (.ref 522) := GV.glob (by kernel_rfl) (by rfl)
theorem exmVE : exmOne (gi prog w H0 p loose mg mb).K (.type "ValueError") (.type "ValueError") = some true := by kernel_rfl
theorem fn_pair {a b : Lbl} (ha : Good a) (hb : Good b) (hp : PairOk a b) : Fn (gi prog w H0 p loose mg mb) 10 (.ref 515) [.name a, .name b, lv a, lv b] (.ok (.bool true)) := by
  have la := ha.len
  have lb := hb.len
  refine Fn.intro (n := 9) (names := ["x", "y", "one", "two"]) (loc := ["wanted", "less", "pair"]) (xs := []) (dx := []) (by rfl) (by kernel_rfl) (fun vs s hv _ => ?bind) (fun _ _ => by simp only [RepL]) (by decide +kernel) rfl (by decide +kernel) (by decide +kernel) ?_
  case bind =>
    match vs, hv with
    | [a, b, c, d], _ => exact BindsTo.of_eq rfl
  rintro ⟨⟨sc, lo, gl, ce, qu, fu, co, fr, bu⟩, A, st, ou, hE, xs', ys'⟩ ok hs hx' hy hc'
  dsimp only at hs hx' hy hc'
  subst hs hx' hy hc'
  let W0 : List V := [tv (0, joinV a b), tv (1, joinV a b), tv (4, moreV a b)]
  let R : Option B → En := fun o => [some (.sh (.name a)), some (.sh (.name b)), some (.sh (lv a)), some (.sh (lv b)), o, none, none]
  refine Ex.assignO ok 4 rfl (EvO.listD (ds := W0) ok (Evs.cons ok (Ev.tupD (ds := [.int 0, joinV a b]) ok (Evs.cons ok Ev.cint (Evs.cons ok (Ev.call ok rfl gv_join (.inr (by kernel_rfl)) (m := 3) (by decide) (Evs.cons ok (Ev.name ok 2 rfl rfl) (Evs.cons ok (Ev.name ok 3 rfl rfl) Evs.nil rfl) rfl) (fn_join ha hb)) Evs.nil rfl) rfl) (by simp)) (Evs.cons ok (Ev.tupD (ds := [.int 1, joinV a b]) ok (Evs.cons ok Ev.cint (Evs.cons ok (Ev.call ok rfl gv_join (.inr (by kernel_rfl)) (m := 3) (by decide) (Evs.cons ok (Ev.name ok 2 rfl rfl) (Evs.cons ok (Ev.name ok 3 rfl rfl) Evs.nil rfl) rfl) (fn_join ha hb)) Evs.nil rfl) rfl) (by simp)) (Evs.cons ok (Ev.tupD (ds := [.int 4, moreV a b]) ok (Evs.cons ok Ev.cint (Evs.cons ok (Ev.call ok rfl gv_more (.inr (by kernel_rfl)) (m := 4) (by decide) (Evs.cons ok (Ev.name ok 2 rfl rfl) (Evs.cons ok (Ev.name ok 3 rfl rfl) Evs.nil rfl) rfl) (fn_more ha hb)) Evs.nil rfl) rfl) (by simp)) Evs.nil rfl) rfl) rfl) (by simp [W0])) rfl ?_
  refine Ex.freeze (i := 4) (ds := W0) ok rfl ?_
  refine Ex.seq (O₁ := fun o => ∃ ρ', o = .next ρ' ∧ Weak ρ' (R (some (.li ((wantL a b).map tv))))) ?mid ?rest (fun o h hn => let ⟨ρ', e', _⟩ := h; (hn _ e').elim)
  case rest =>
    rintro ρ' ⟨_, h, wk⟩; injection h with h; subst h
    refine Ex.weak wk (Ex.freeze (i := 4) (ds := (wantL a b).map tv) ok rfl ?_)
    have hwl : (wantL a b).length ≤ 20 := by unfold wantL; simp only [List.length_append]; repeat' split <;> simp
    refine Ex.seq (O₁ := fun o => o = .next (R (some (.sh (.list ((wantL a b).map tv)))))) (Ex.for (τ := Unit) ok 6 rfl (ItSrc.list ok (Ev.name ok 4 rfl rfl)) (fun _ => R (some (.sh (.list ((wantL a b).map tv))))) (fun _ _ => True) () (.keep (.keep (.keep (.keep (.keep (.keep (.keep .nil))))))) trivial ?turn (fun _ _ => rfl)) ?rest2 (fun o h hn => (hn _ h).elim)
    case rest2 =>
      intro ρ' h; injection h with h; subst h
      exact Ex.retV ok Ev.cbool
    case turn =>
      intro k t d hd _
      simp only [List.getElem?_map, Option.map_eq_some_iff] at hd
      obtain ⟨q, hq, rfl⟩ := hd
      obtain ⟨h1, h2, h3, h4, h5⟩ := hp.r q (List.mem_of_getElem? hq)
      refine Ex.ifR ok (c := !V.eqv q.2 q.2) (Te.cmp ok (Ev.call ok rfl gv_try (.inr (by kernel_rfl)) (m := 9) (by decide) (Evs.cons ok (Ev.sub ok (Ev.name ok 6 rfl rfl) Ev.cint (.inr (.inl rfl)) (Op2.itemTup (d := .int q.1) rfl (by simp))) (Evs.cons ok (Ev.name ok 0 rfl rfl) (Evs.cons ok (Ev.name ok 1 rfl rfl) Evs.nil rfl) rfl) rfl) (h1 ▸ fn_try ha hb h2)) (Ev.sub ok (Ev.name ok 6 rfl rfl) Ev.cint (.inr (.inl rfl)) (Op2.itemTup (d := q.2) rfl (by simp))) (Op2.neV 1 h5 (by decide) (by decide) h3)) (fun h => ?_) (fun h => ?_)
      · rw [h4] at h; cases h
      · exact Ex.nil ⟨(), trivial, .keep (.keep (.keep (.keep (.keep (.keep (.drop .nil))))))⟩
  case mid =>
  have em : (wantL a b).map tv = W0 ++ (if decide (((b.map V.bytes).length : Int) = 0) = true then [tv (5, lv a), tv (6, lv a), tv (7, lv a)]
      else [tv (2, lv (lessL a b)), tv (3, lv (lessL a b)), tv (5, lv (lessL a b)), tv (7, lv (lessL a b)), tv (6, moreV a b)] ++
     (if underB a b = true then [tv (8, .list ((lessL a b).map .bytes ++ b.map .bytes))] else []) ++
     (if (!absL a && decide (wire a + wire b ≤ 255)) = true then [tv (9, lv a)] else [])) := by
    unfold wantL
    rw [List.map_append]
    congr 1
    split
    · rfl
    · rw [List.map_append, List.map_append]
      congr 1
      · congr 1
        split <;> rfl
      · split <;> rfl
  refine Ex.ite ok (Te.cmp ok (Ev.callB ok rfl gv_len kept_builtin (Evs.cons ok (Ev.name ok 3 rfl rfl) Evs.nil rfl) Bi.lenList) Ev.cint Op2.eq) (fun h => ?_) (fun h => ?_)
  · rw [em, if_pos h]
    refine Ex.assignO ok 4 rfl (EvO.addL ok (Ev.name ok 4 rfl rfl) (Ev.listD (ds := [tv (5, lv a), tv (6, lv a), tv (7, lv a)]) ok (Evs.cons ok (Ev.tupD (ds := [.int 5, lv a]) ok (Evs.cons ok Ev.cint (Evs.cons ok (Ev.name ok 2 rfl rfl) Evs.nil rfl) rfl) (by simp)) (Evs.cons ok (Ev.tupD (ds := [.int 6, lv a]) ok (Evs.cons ok Ev.cint (Evs.cons ok (Ev.name ok 2 rfl rfl) Evs.nil rfl) rfl) (by simp)) (Evs.cons ok (Ev.tupD (ds := [.int 7, lv a]) ok (Evs.cons ok Ev.cint (Evs.cons ok (Ev.name ok 2 rfl rfl) Evs.nil rfl) rfl) (by simp)) Evs.nil rfl) rfl) rfl) (by simp)) (by exact small_line (by simp [W0]))) rfl (Ex.nil ⟨_, rfl, ?_⟩)
    exact .keep (.keep (.keep (.keep (.keep (.keep (.keep .nil))))))
  · rw [em, if_neg (by rw [h]; decide)]
    let L2 : List V := W0 ++ [tv (2, lv (lessL a b)), tv (3, lv (lessL a b)), tv (5, lv (lessL a b)), tv (7, lv (lessL a b)), tv (6, moreV a b)]
    let L3 : List V := L2 ++ (if underB a b = true then [tv (8, .list ((lessL a b).map .bytes ++ b.map .bytes))] else [])
    let R2 : List V → En := fun l => [some (.sh (.name a)), some (.sh (.name b)), some (.sh (lv a)), some (.sh (lv b)), some (.li l), some (.sh (lv (lessL a b))), none]
    have hless : (lessL a b).length ≤ 300 := by
      have := slc_length_le a none (some ((a.length : Int) - (b.length : Int)))
      unfold lessL; split <;> omega
    refine Ex.assign ok 5 rfl (d := lv (lessL a b)) (Ev.call ok rfl gv_less (.inr (by kernel_rfl)) (m := 4) (by decide) (Evs.cons ok (Ev.name ok 2 rfl rfl) (Evs.cons ok (Ev.name ok 3 rfl rfl) Evs.nil rfl) rfl) (fn_less ha hb)) ?_
    refine Ex.assignO ok 4 rfl (EvO.addL ok (Ev.name ok 4 rfl rfl) (Ev.listD (ds := [tv (2, lv (lessL a b)), tv (3, lv (lessL a b)), tv (5, lv (lessL a b)), tv (7, lv (lessL a b)), tv (6, moreV a b)]) ok (Evs.cons ok (Ev.tupD (ds := [.int 2, lv (lessL a b)]) ok (Evs.cons ok Ev.cint (Evs.cons ok (Ev.name ok 5 rfl rfl) Evs.nil rfl) rfl) (by simp)) (Evs.cons ok (Ev.tupD (ds := [.int 3, lv (lessL a b)]) ok (Evs.cons ok Ev.cint (Evs.cons ok (Ev.name ok 5 rfl rfl) Evs.nil rfl) rfl) (by simp)) (Evs.cons ok (Ev.tupD (ds := [.int 5, lv (lessL a b)]) ok (Evs.cons ok Ev.cint (Evs.cons ok (Ev.name ok 5 rfl rfl) Evs.nil rfl) rfl) (by simp)) (Evs.cons ok (Ev.tupD (ds := [.int 7, lv (lessL a b)]) ok (Evs.cons ok Ev.cint (Evs.cons ok (Ev.name ok 5 rfl rfl) Evs.nil rfl) rfl) (by simp)) (Evs.cons ok (Ev.tupD (ds := [.int 6, moreV a b]) ok (Evs.cons ok Ev.cint (Evs.cons ok (Ev.call ok rfl gv_more (.inr (by kernel_rfl)) (m := 4) (by decide) (Evs.cons ok (Ev.name ok 2 rfl rfl) (Evs.cons ok (Ev.name ok 3 rfl rfl) Evs.nil rfl) rfl) (fn_more ha hb)) Evs.nil rfl) rfl) (by simp)) Evs.nil rfl) rfl) rfl) rfl) rfl) (by simp)) (by exact small_line (by simp [W0]))) rfl ?_
    refine Ex.ifJ ok (R2 L3) (Te.val (Ev.call ok rfl gv_under (.inr (by kernel_rfl)) (m := 3) (by decide) (Evs.cons ok (Ev.name ok 2 rfl rfl) (Evs.cons ok (Ev.name ok 3 rfl rfl) Evs.nil rfl) rfl) (fn_under ha hb))) (fun hu => ?_) (fun hu => ?_) ?_
    · have e3 : L3 = L2 ++ [tv (8, .list ((lessL a b).map .bytes ++ b.map .bytes))] := by simp only [L3]; rw [if_pos hu]
      rw [e3]
      refine Ex.append (ds := L2) ok 4 rfl rfl (Ev.tupD (ds := [.int 8, .list ((lessL a b).map .bytes ++ b.map .bytes)]) ok (Evs.cons ok Ev.cint (Evs.cons ok (Ev.bin ok (Ev.name ok 5 rfl rfl) (Ev.name ok 3 rfl rfl) (Op2.addL (by simp only [List.length_map]; exact small_line (by omega)))) Evs.nil rfl) rfl) (by simp)) (small_line (by simp [L2, W0])) (Ex.nil rfl)
    · have e3 : L3 = L2 := by simp only [L3]; rw [if_neg (by rw [hu]; decide), List.append_nil]
      rw [e3]; exact Ex.nil rfl
    have hl3 : L3.length ≤ 10 := by simp only [L3]; split <;> simp [L2, W0]
    have eL : W0 ++ ([tv (2, lv (lessL a b)), tv (3, lv (lessL a b)), tv (5, lv (lessL a b)), tv (7, lv (lessL a b)), tv (6, moreV a b)] ++
     (if underB a b = true then [tv (8, .list ((lessL a b).map .bytes ++ b.map .bytes))] else []) ++
     (if (!absL a && decide (wire a + wire b ≤ 255)) = true then [tv (9, lv a)] else [])) = L3 ++ (if (!absL a && decide (wire a + wire b ≤ 255)) = true then [tv (9, lv a)] else []) := by simp only [L3, L2, List.append_assoc]
    rw [eL]
    refine Ex.ite ok (c := !absL a && decide (wire a + wire b ≤ 255)) (Te.bool (TAll.and_cons ok (Te.not (Te.val (Ev.call ok rfl gv_absolute (.inr (by kernel_rfl)) (m := 2) (by decide) (Evs.cons ok (Ev.name ok 2 rfl rfl) Evs.nil rfl) fn_absolute))) fun _ => TAll.and1 ok (Te.cmp ok (Ev.bin ok (Ev.call ok rfl gv_wire (.inr (by kernel_rfl)) (m := 1) (by decide) (Evs.cons ok (Ev.name ok 2 rfl rfl) Evs.nil rfl) fn_wire) (Ev.call ok rfl gv_wire (.inr (by kernel_rfl)) (m := 1) (by decide) (Evs.cons ok (Ev.name ok 3 rfl rfl) Evs.nil rfl) fn_wire) Op2.add) Ev.cint Op2.le))) (fun hu => ?_) (fun hu => ?_)
    · rw [if_pos hu]
      exact Ex.append (ds := L3) ok 4 rfl rfl (Ev.tupD (ds := [.int 9, lv a]) ok (Evs.cons ok Ev.cint (Evs.cons ok (Ev.name ok 2 rfl rfl) Evs.nil rfl) rfl) (by simp)) (small_line (by omega)) (Ex.nil ⟨_, rfl, .keep (.keep (.keep (.keep (.keep (.drop (.keep .nil))))))⟩)
    · rw [if_neg (by rw [hu]; decide), List.append_nil]
      exact Ex.nil ⟨_, rfl, .keep (.keep (.keep (.keep (.keep (.drop (.keep .nil))))))⟩
theorem fn_cut {ls : Lbl} {d : Int} (hl : Good ls) : Fn (gi prog w H0 p loose mg mb) 8 (.ref 522) [.name ls, .int d] (.ok (cutR ls d)) := by
  refine Fn.introT (n := 7) (names := ["x", "depth"]) (loc := ["z"]) (xs := []) (dx := []) (by rfl) (by kernel_rfl) (fun vs s hv _ => bind2 (fun v u => by rfl) vs s hv) (fun _ _ => by simp only [RepL]) (by decide +kernel) rfl (by decide +kernel) (by decide +kernel) ?_
  rintro ⟨⟨sc, lo, gl, ce, qu, fu, co, fr, bu⟩, A, st, ou, hE, xs', ys'⟩ ok hs hx' hy hc' hst hfr
  dsimp only at hs hx' hy hc' hst hfr
  subst hs hx' hy hc'
  let R : V → En := fun z => [some (.sh (.name ls)), some (.sh (.int d)), some (.sh z)]
  refine Ex.try (O₁ := AsgO R (splR ls d)) ok hst hfr (Ex.asgn ok 2 rfl (Ev.meth ok splM (m := 6) (by decide) (Ev.name ok 0 rfl rfl) (Evs.cons ok (Ev.name ok 1 rfl rfl) Evs.nil rfl) (fn_spl hl)) (fun d => rfl)) (fun ρ' h => ?_) (fun o h h1 h2 => ?_) (fun c ρ' h => ?_)
  · rcases h with ⟨z, hz, h⟩ | ⟨c, ρ'', _, h⟩
    · injection h with h; subst h
      by_cases hd : 0 ≤ d ∧ d ≤ (ls.length : Int)
      · rw [splR_ok hd] at hz; injection hz with hz; subst hz
        unfold cutR; rw [if_pos hd]
        have g1 : Good (ls.take (ls.length - d.toNat)) := hl.take _
        have g2 : Good (ls.drop (ls.length - d.toNat)) := hl.drop _
        have c1 : Fn (gi prog w H0 p loose mg mb) 7 (.ref 294) [.name (ls.take (ls.length - d.toNat)), .name (ls.drop (ls.length - d.toNat))] (.ok (.name ls)) := con_parts hl _ ▸ fn_add g1 g2
        refine Ex.retV ok (Ev.listD ok (Evs.cons ok (d := lv (ls.take (ls.length - d.toNat))) (Ev.callB ok rfl gv_list kept_type (Evs.cons ok (Ev.labels ok labK (Ev.sub ok (Ev.name ok 2 rfl rfl) Ev.cint (.inr (.inl rfl)) (Op2.itemTup (d := .name (ls.take (ls.length - d.toNat))) rfl (by simp)))) Evs.nil rfl) Bi.listT)
          (Evs.cons ok (d := lv (ls.drop (ls.length - d.toNat))) (Ev.callB ok rfl gv_list kept_type (Evs.cons ok (Ev.labels ok labK (Ev.sub ok (Ev.name ok 2 rfl rfl) Ev.cint (.inr (.inl rfl)) (Op2.itemTup (d := .name (ls.drop (ls.length - d.toNat))) rfl (by simp)))) Evs.nil rfl) Bi.listT)
          (Evs.cons ok (d := lv ls) (Ev.callB ok rfl gv_list kept_type (Evs.cons ok (Ev.labels ok labK (Ev.bin ok (Ev.sub ok (Ev.name ok 2 rfl rfl) Ev.cint (.inr (.inl rfl)) (Op2.itemTup (d := .name (ls.take (ls.length - d.toNat))) rfl (by simp))) (Ev.sub ok (Ev.name ok 2 rfl rfl) Ev.cint (.inr (.inl rfl)) (Op2.itemTup (d := .name (ls.drop (ls.length - d.toNat))) rfl (by simp))) (Op2.binName (m := 7) (by decide) sel1 (by kernel_rfl) (by kernel_rfl) c1 (fun d h => by injection h with h; exact ⟨_, h.symm⟩)))) Evs.nil rfl) Bi.listT) Evs.nil rfl) rfl) rfl) (by simp))
      · rw [splR_no hd] at hz; cases hz
    · cases h
  · rcases h with ⟨z, hz, h⟩ | ⟨c, ρ'', _, h⟩
    · exact (h1 _ h).elim
    · exact (h2 _ _ h).elim
  · rcases h with ⟨z, hz, h⟩ | ⟨c', ρ'', hz, h⟩
    · cases h
    · injection h with h1 h2; subst h1
      by_cases hd : 0 ≤ d ∧ d ≤ (ls.length : Int)
      · rw [splR_ok hd] at hz; cases hz
      · rw [splR_no hd] at hz; injection hz with hz; subst hz
        unfold cutR; rw [if_neg hd]
        exact ⟨1, .hit (.inr ⟨by kernel_rfl, by kernel_rfl, by decide⟩) rfl rfl exmVE, retO⟩
end
theorem bord_self : ∀ z : List UInt8, bord z z = .eq
  | [] => rfl
  | a :: z => by
    show (if a < a then Ordering.lt else if a > a then .gt else bord z z) = _
    rw [bord_self z]; simp [UInt8.lt_irrefl]
theorem bord_eq : ∀ x y : List UInt8, bord x y = .eq → x = y
  | [], [], _ => rfl
  | [], _ :: _, h => by simp [bord, Builtin.Bytes.order] at h
  | _ :: _, [], h => by simp [bord, Builtin.Bytes.order] at h
  | a :: x, b :: y, h => by
    have e : bord (a :: x) (b :: y) = if a < b then .lt else if a > b then .gt else bord x y := rfl
    rw [e] at h
    by_cases h1 : a < b
    · rw [if_pos h1] at h; cases h
    · rw [if_neg h1] at h
      by_cases h2 : a > b
      · rw [if_pos h2] at h; cases h
      · rw [if_neg h2] at h
        have n1 : ¬ a.toNat < b.toNat := h1
        have n2 : ¬ b.toNat < a.toNat := h2
        have : a = b := UInt8.toNat.inj (by omega)
        rw [this, bord_eq x y h]
theorem fcGo_cc (x y : List UInt8) (xs ys : Lbl) (k ld : Int) : (blow x = blow y ∧ fcGo (x :: xs) (y :: ys) k ld = fcGo xs ys (k + 1) ld) ∨ (blow x ≠ blow y ∧ (fcGo (x :: xs) (y :: ys) k ld = (if k > 0 then 4 else 0, -1, k) ∨ fcGo (x :: xs) (y :: ys) k ld = (if k > 0 then 4 else 0, 1, k))) := by
  have e : fcGo (x :: xs) (y :: ys) k ld = if (bord (blow x) (blow y) == .lt) = true then (if k > 0 then 4 else 0, -1, k) else if (bord (blow x) (blow y) == .gt) = true then (if k > 0 then 4 else 0, 1, k) else fcGo xs ys (k + 1) ld := rfl
  cases hb : bord (blow x) (blow y) with
  | lt =>
    refine .inr ⟨(fun q => by rw [q, bord_self] at hb; cases hb), .inl (by rw [e, hb]; rfl)⟩
  | gt =>
    refine .inr ⟨(fun q => by rw [q, bord_self] at hb; cases hb), .inr (by rw [e, hb]; rfl)⟩
  | eq => exact .inl ⟨bord_eq _ _ hb, by rw [e, hb]; rfl⟩
theorem fcGo_zero : ∀ (xs ys : Lbl) (k ld : Int), ld = (xs.length : Int) - ys.length → ((fcGo xs ys k ld).2.1 = 0 ↔ xs.map blow = ys.map blow)
  | [], [], k, ld, h => by subst h; simp [fcGo]
  | [], y :: ys, k, ld, h => by
    have : (fcGo [] (y :: ys) k ld).2.1 = ld := rfl
    rw [this]; simp at h ⊢; omega
  | x :: xs, [], k, ld, h => by
    have : (fcGo (x :: xs) [] k ld).2.1 = ld := rfl
    rw [this]; simp at h ⊢; omega
  | x :: xs, y :: ys, k, ld, h => by
    rcases fcGo_cc x y xs ys k ld with ⟨h1, h2⟩ | ⟨h1, h2 | h2⟩
    · rw [h2, fcGo_zero xs ys (k + 1) ld (by rw [h]; simp; omega)]
      simp [h1]
    · rw [h2]; simp [h1]
    · rw [h2]; simp [h1]
theorem fcGo_rel : ∀ (xs ys : Lbl) (k ld : Int), ld = (xs.length : Int) - ys.length → (((fcGo xs ys k ld).1 = 2 ∨ (fcGo xs ys k ld).1 = 3) ↔ (ys.length ≤ xs.length ∧ (xs.take ys.length).map blow = ys.map blow))
  | [], [], k, ld, h => by subst h; simp [fcGo]
  | [], y :: ys, k, ld, h => by
    have : (fcGo [] (y :: ys) k ld).1 = if ld < 0 then 1 else if ld > 0 then 2 else 3 := rfl
    rw [this, if_pos (by rw [h]; simp <;> omega)]; simp
  | x :: xs, [], k, ld, h => by
    have : (fcGo (x :: xs) [] k ld).1 = if ld < 0 then 1 else if ld > 0 then 2 else 3 := rfl
    have h0 : ld > 0 := by rw [h]; simp <;> omega
    rw [this, if_neg (by omega), if_pos h0]; simp
  | x :: xs, y :: ys, k, ld, h => by
    rcases fcGo_cc x y xs ys k ld with ⟨h1, h2⟩ | ⟨h1, h2 | h2⟩
    · rw [h2, fcGo_rel xs ys (k + 1) ld (by rw [h]; simp; omega)]
      simp [h1]
    · rw [h2]; simp only [List.length_cons, List.take_succ_cons, List.map_cons, List.cons.injEq]
      constructor
      · intro q; exfalso; split at q <;> omega
      · rintro ⟨_, q, _⟩; exact (h1 q).elim
    · rw [h2]; simp only [List.length_cons, List.take_succ_cons, List.map_cons, List.cons.injEq]
      constructor
      · intro q; exfalso; split at q <;> omega
      · rintro ⟨_, q, _⟩; exact (h1 q).elim
theorem fc_same {a b : Lbl} (h : absL a = absL b) : fc a b = fcGo a.reverse b.reverse 0 ((a.length : Int) - b.length) := by
  unfold fc; rw [h, if_neg]
  generalize absL b = c
  cases c <;> decide
theorem fc_diff {a b : Lbl} (h : absL a ≠ absL b) : fc a b = if absL a = true then (0, 1, 0) else (0, -1, 0) := by
  unfold fc; rw [if_pos]
  revert h
  generalize absL b = c
  generalize absL a = d
  cases c <;> cases d <;> decide
theorem absL_blow (a : Lbl) : absL (a.map blow) = absL a := by
  unfold absL
  rw [List.getLast?_map]
  cases q : a.getLast? with
  | none => rfl
  | some b =>
    cases b with
    | nil => rfl
    | cons c r => simp [blow]
theorem fc_zero (a b : Lbl) : (fc a b).2.1 = 0 ↔ a.map blow = b.map blow := by
  by_cases h : absL a = absL b
  · rw [fc_same h, fcGo_zero _ _ _ _ (by simp), List.map_reverse, List.map_reverse, List.reverse_inj]
  · rw [fc_diff h]
    constructor
    · intro q; split at q <;> simp at q
    · intro q; exfalso; apply h; rw [← absL_blow a, ← absL_blow b, q]
theorem blow_nil {b : List UInt8} : blow b = [] ↔ b = [] := by unfold blow; simp
theorem map_root {a : Lbl} : a.map blow = [[]].map blow ↔ a = [[]] := by
  constructor
  · intro h
    cases a with
    | nil => simp at h
    | cons b r =>
      cases r with
      | nil => 
        simp only [List.map_cons, List.map_nil, List.cons.injEq, and_true] at h
        have : blow b = [] := by rw [h]; rfl
        rw [blow_nil.mp this]
      | cons c r => simp at h
  · rintro rfl; rfl
theorem parR_eq (a : Lbl) : parR a = if a = [[]] ∨ a = [] then .exc (.ref 130) else .ok (.name (a.drop 1)) := by
  unfold parR
  have e1 : (fc a [[]]).2.1 = 0 ↔ a = [[]] := (fc_zero _ _).trans map_root
  have e2 : (fc a []).2.1 = 0 ↔ a = [] := (fc_zero _ _).trans (by simp)
  have e3 : slc a (some (1 : Int)) none = a.drop 1 := by
    cases a with
    | nil => rfl
    | cons b r => exact slc_hi (b :: r) 1 (by simp)
  rw [e3]
  by_cases h : a = [[]] ∨ a = []
  · rw [if_pos h, if_pos (by simpa [e1, e2] using h)]
  · rw [if_neg h, if_neg (by simpa [e1, e2] using h)]
theorem subB_eq (a b : Lbl) : subB a b = underB a b := by
  unfold subB underB
  by_cases h : absL a = absL b
  · have hr := fcGo_rel a.reverse b.reverse 0 ((a.length : Int) - b.length) (by simp)
    rw [fc_same h]
    have key : ((decide ((fcGo a.reverse b.reverse 0 ((a.length : Int) - b.length)).1 = 2) || decide ((fcGo a.reverse b.reverse 0 ((a.length : Int) - b.length)).1 = 3)) = true) ↔ (b.length ≤ a.length ∧ (a.drop (a.length - b.length)).map blow = b.map blow) := by
      rw [Bool.or_eq_true, decide_eq_true_eq, decide_eq_true_eq, hr]
      simp only [List.length_reverse]
      refine and_congr_right fun hl => ?_
      rw [List.take_reverse, List.map_reverse, List.map_reverse, List.reverse_inj]
    by_cases hl : a.length < b.length
    · rw [if_pos (by simp [hl])]
      rw [Bool.eq_false_iff]
      intro q; have := (key.mp q).1; omega
    · rw [if_neg (by simp [hl, h])]
      have e : slc a (some ((a.length : Int) - (b.length : Int))) none = a.drop (a.length - b.length) := by
        have : ((a.length : Int) - (b.length : Int)) = ((a.length - b.length : Nat) : Int) := by omega
        rw [this]; exact slc_hi _ _ (by omega)
      rw [e]
      by_cases hm : (a.drop (a.length - b.length)).map blow = b.map blow
      · rw [key.mpr ⟨by omega, hm⟩, decide_eq_true hm]
      · rw [decide_eq_false hm, Bool.eq_false_iff]
        intro q; exact hm (key.mp q).2
  · have hne : (absL a != absL b) = true := by simpa using h
    rw [if_pos (by rw [hne, Bool.or_true]), fc_diff h]
    split <;> rfl
theorem under_spec {a b : Lbl} (h : underB a b = true) : b.length ≤ a.length ∧ absL a = absL b ∧ (a.drop (a.length - b.length)).map blow = b.map blow := by
  unfold underB at h
  split at h
  · cases h
  · rename_i q
    simp only [Bool.or_eq_true, decide_eq_true_eq, not_or, bne_iff_ne, ne_eq, Classical.not_not] at q
    have hl : b.length ≤ a.length := by omega
    have e : slc a (some ((a.length : Int) - (b.length : Int))) none = a.drop (a.length - b.length) := by
      have : ((a.length : Int) - (b.length : Int)) = ((a.length - b.length : Nat) : Int) := by omega
      rw [this]; exact slc_hi _ _ (by omega)
    rw [e] at h
    exact ⟨hl, q.2, by simpa using h⟩
theorem lessL_eq {a b : Lbl} : lessL a b = if underB a b = true then a.take (a.length - b.length) else a := by
  unfold lessL
  split
  · rename_i h
    have hl := (under_spec h).1
    have : ((a.length : Int) - (b.length : Int)) = ((a.length - b.length : Nat) : Int) := by omega
    rw [this]; exact slc_lo _ _ (by omega)
  · rfl
theorem relL_eq {a b : Lbl} (hb : 0 < b.length) : relL a b = lessL a b := by
  rw [lessL_eq]
  unfold relL
  rw [subB_eq]
  split
  · rw [slc_upto, if_neg (by omega)]
  · rfl
theorem wire_blow {a b : Lbl} (h : a.map blow = b.map blow) : wire a = wire b := by
  have e : ∀ l : Lbl, wire (l.map blow) = wire l := fun l => by unfold wire; rw [List.map_map]; congr 1; exact List.map_congr_left fun b _ => by simp [blow_len]
  rw [← e a, ← e b, h]
theorem abs_take {a : Lbl} (h : Good a) {k : Nat} (hk : k < a.length) : absL (a.take k) = false := by
  rw [Bool.eq_false_iff]
  intro q
  unfold absL at q
  have q : (a.take k).getLast? = some [] := by simpa using q
  have hm : ([] : List UInt8) ∈ a.dropLast := by
    have := List.mem_of_getLast? q
    rw [List.dropLast_eq_take]
    exact (List.take_subset_take_left a (by omega : k ≤ a.length - 1)) this
  have := (h.init _ hm).1
  simp at this
theorem resV_con (a b : Lbl) : resV (conR a b) = joinV a b := by
  unfold conR joinV nameR
  split
  · rfl
  · rw [wire_app]; split <;> rfl
theorem resV_der (a b : Lbl) : resV (derR a b) = moreV a b := by
  unfold derR moreV
  cases absL a
  · exact resV_con a b
  · rfl
theorem val_ok (v : V) (h : (∃ i, v = .int i) ∨ (∃ l : Lbl, v = lv l)) : V.sup v v = true ∧ V.eqv v v = true ∧ V.dep v ≤ 1 := by
  rcases h with ⟨i, rfl⟩ | ⟨l, rfl⟩
  · exact ⟨rfl, by simp [V.eqv], by simp [V.dep]⟩
  · exact ⟨sup_self l, eqv_self l, dep_self l⟩
theorem join_val (a b : Lbl) : (∃ i, joinV a b = .int i) ∨ (∃ l : Lbl, joinV a b = lv l) := by
  unfold joinV; split
  · exact .inl ⟨_, rfl⟩
  · split
    · exact .inl ⟨_, rfl⟩
    · exact .inr ⟨_, rfl⟩
theorem more_val (a b : Lbl) : (∃ i, moreV a b = .int i) ∨ (∃ l : Lbl, moreV a b = lv l) := by
  unfold moreV; split
  · exact .inr ⟨_, rfl⟩
  · exact join_val a b
theorem der_rel {a b : Lbl} (h : absL a = false) (hw : wire (a ++ b) ≤ 255) : derR a b = .ok (.name (a ++ b)) := by
  unfold derR conR
  simp [h, nameR_ok hw]
theorem abs_app {a b : Lbl} (hb : 0 < b.length) : absL (a ++ b) = absL b := by
  unfold absL
  obtain ⟨c, hc⟩ : ∃ c, b.getLast? = some c := by
    cases q : b.getLast? with
    | none => rw [List.getLast?_eq_none_iff] at q; subst q; simp at hb
    | some c => exact ⟨c, rfl⟩
  rw [List.getLast?_append, hc]; rfl
theorem pairOk {a b : Lbl} (ha : Good a) (hb : Good b) : PairOk a b := by
  have fin : ∀ (t : Int × V), t.1 ≠ 9 → resV (deedR t.1 a b) = t.2 → ((∃ i, t.2 = .int i) ∨ (∃ l : Lbl, t.2 = lv l)) → resV (deedR t.1 a b) = t.2 ∧ (t.1 = 9 → ∃ c, Good c ∧ derR a b = .ok (.name c)) ∧ V.sup t.2 t.2 = true ∧ V.eqv t.2 t.2 = true ∧ V.dep t.2 ≤ 1 := fun t h9 h1 h2 => ⟨h1, fun e => (h9 e).elim, val_ok _ h2⟩
  refine ⟨fun t ht => ?_⟩
  unfold wantL at ht
  rcases List.mem_append.mp ht with ht | ht
  · simp only [List.mem_cons, List.not_mem_nil, or_false] at ht
    rcases ht with rfl | rfl | rfl
    · exact fin _ (by simp) (resV_con a b) (join_val a b)
    · exact fin _ (by simp) (resV_con a b) (join_val a b)
    · exact fin _ (by simp) (resV_der a b) (more_val a b)
  by_cases hz : b.length = 0
  · rw [if_pos (by simp [hz])] at ht
    have hc : ∀ s, choR a (some b) s = .ok (.name a) := fun s => by unfold choR; simp [hz]
    simp only [List.mem_cons, List.not_mem_nil, or_false] at ht
    rcases ht with rfl | rfl | rfl
    · exact fin _ (by simp) (by show resV (choR a (some b) true) = _; rw [hc]; rfl) (.inr ⟨_, rfl⟩)
    · exact fin _ (by simp) (by show resV (choR a (some b) false) = _; rw [hc]; rfl) (.inr ⟨_, rfl⟩)
    · exact fin _ (by simp) (by show resV (choR a (some b) true) = _; rw [hc]; rfl) (.inr ⟨_, rfl⟩)
  rw [if_neg (by simp; exact fun e => hz (by rw [e]; rfl))] at ht
  have hb0 : 0 < b.length := by omega
  have hrl := relL_eq (a := a) hb0
  have hct : choR a (some b) true = .ok (.name (relL a b)) := by unfold choR; simp [hb0]
  have hcf : choR a (some b) false = derR a b := by unfold choR; simp [hb0]
  rcases List.mem_append.mp ht with ht | ht
  · rcases List.mem_append.mp ht with ht | ht
    · simp only [List.mem_cons, List.not_mem_nil, or_false] at ht
      rcases ht with rfl | rfl | rfl | rfl | rfl
      · exact fin _ (by simp) (by show resV (.ok (.name (relL a b))) = _; rw [hrl]; rfl) (.inr ⟨_, rfl⟩)
      · exact fin _ (by simp) (by show resV (.ok (.name (relL a b))) = _; rw [hrl]; rfl) (.inr ⟨_, rfl⟩)
      · exact fin _ (by simp) (by show resV (choR a (some b) true) = _; rw [hct, hrl]; rfl) (.inr ⟨_, rfl⟩)
      · exact fin _ (by simp) (by show resV (choR a (some b) true) = _; rw [hct, hrl]; rfl) (.inr ⟨_, rfl⟩)
      · exact fin _ (by simp) (by show resV (choR a (some b) false) = _; rw [hcf]; exact resV_der a b) (more_val a b)
    · split at ht
      · rename_i hu
        simp only [List.mem_cons, List.not_mem_nil, or_false] at ht
        subst ht
        obtain ⟨u1, u2, u3⟩ := under_spec hu
        have el : lessL a b = a.take (a.length - b.length) := by rw [lessL_eq, if_pos hu]
        have ev : (V.list ((lessL a b).map .bytes ++ b.map .bytes)) = lv (lessL a b ++ b) := by simp [lv]
        have habs : absL (lessL a b) = false := by rw [el]; exact abs_take ha (by omega)
        have hw : wire (lessL a b ++ b) ≤ 255 := by
          rw [wire_app, el, ← wire_blow u3]
          have := wire_app (a.take (a.length - b.length)) (a.drop (a.length - b.length))
          rw [List.take_append_drop] at this
          have := ha.small; omega
        refine fin _ (by simp) ?_ (.inr ⟨_, ev⟩)
        show resV (derR (relL a b) b) = _
        rw [hrl, der_rel habs hw]
        exact ev.symm
      · cases ht
  · split at ht
    · rename_i hu
      simp only [List.mem_cons, List.not_mem_nil, or_false] at ht
      subst ht
      simp only [Bool.and_eq_true, Bool.not_eq_true', decide_eq_true_eq] at hu
      obtain ⟨hu1, hu2⟩ := hu
      have hd : derR a b = .ok (.name (a ++ b)) := der_rel hu1 (by rw [wire_app]; exact hu2)
      have hgab : Good (a ++ b) := by
        have hne : b ≠ [] := fun e => by rw [e] at hb0; simp at hb0
        refine ⟨fun c hc => ?_, fun c hc => ?_, by rw [wire_app]; exact hu2⟩
        · rw [List.dropLast_append_of_ne_nil hne] at hc
          rcases List.mem_append.mp hc with hc | hc
          · exact ⟨ha.rel hu1 c hc, ha.mem hc⟩
          · exact hb.init c hc
        · rw [List.getLast?_append] at hc
          cases q : b.getLast? with
          | none => rw [List.getLast?_eq_none_iff] at q; exact (hne q).elim
          | some c' => rw [q] at hc; simp at hc; subst hc; exact hb.last _ q
      have hu : underB (a ++ b) b = true := by
        unfold underB
        rw [if_neg (by rw [abs_app hb0, bne_self_eq_false, Bool.or_false, decide_eq_true_eq, List.length_append]; omega)]
        have : (((a ++ b).length : Int) - (b.length : Int)) = ((a.length : Nat) : Int) := by simp
        rw [this, slc_hi _ _ (by simp)]; simp
      have hrel : relL (a ++ b) b = a := by
        rw [relL_eq hb0, lessL_eq, if_pos hu]; simp
      refine ⟨?_, fun _ => ⟨_, hgab, hd⟩, val_ok _ (.inr ⟨_, rfl⟩)⟩
      show resV (d9R a b) = _
      unfold d9R
      rw [hd]
      show lv (relL (a ++ b) b) = _
      rw [hrel]
    · cases ht
def zL (ls : Lbl) (j : Nat) : Lbl := if j = ls.length ∧ absL ls = true then [[]] else ls.drop j
theorem zL_lt {ls : Lbl} {j : Nat} (h : j < ls.length) : zL ls j = ls.drop j := by unfold zL; rw [if_neg (by omega)]
theorem abs_last {ls : Lbl} (h : absL ls = true) : ∃ r, ls = r ++ [[]] := by
  unfold absL at h
  have h : ls.getLast? = some [] := by simpa using h
  have hne : ls ≠ [] := fun e => by rw [e] at h; cases h
  refine ⟨ls.dropLast, ?_⟩
  have e := List.dropLast_concat_getLast hne
  rw [List.getLast?_eq_some_getLast hne] at h
  injection h with h
  rw [h] at e; exact e.symm
theorem zL_stay {ls : Lbl} {j : Nat} (h : j < ls.length) (hd : ls.drop j = [[]]) : zL ls (j + 1) = zL ls j := by
  have hl := congrArg List.length hd
  simp only [List.length_drop, List.length_cons, List.length_nil] at hl
  have ha : absL ls = true := by
    unfold absL
    have : (ls.drop j).getLast? = ls.getLast? := by rw [List.getLast?_drop, if_neg (by omega)]
    rw [← this, hd]; rfl
  rw [zL_lt h, hd]
  unfold zL
  rw [if_pos ⟨by omega, ha⟩]
theorem zL_next {ls : Lbl} {j : Nat} (h : j < ls.length) (hd : ls.drop j ≠ [[]]) : zL ls (j + 1) = ls.drop (j + 1) ∧ parR (zL ls j) = .ok (.name (ls.drop (j + 1))) := by
  constructor
  · unfold zL
    rw [if_neg]
    rintro ⟨h1, h2⟩
    obtain ⟨r, rfl⟩ := abs_last h2
    apply hd
    have : j = r.length := by simp at h1; exact h1
    rw [this]; simp
  · rw [zL_lt h, parR_eq, if_neg]
    · rw [List.drop_drop]
    · rintro (q | q)
      · exact hd q
      · have := congrArg List.length q
        simp only [List.length_drop, List.length_nil] at this; omega
theorem zL_end (ls : Lbl) : parR (zL ls ls.length) = .exc (.ref 130) := by
  rw [parR_eq]
  unfold zL
  split
  · rw [if_pos (.inl rfl)]
  · rw [List.drop_length, if_pos (.inr rfl)]
theorem zL_good {ls : Lbl} (h : Good ls) (j : Nat) : Good (zL ls j) := by
  unfold zL
  split
  · exact ⟨fun b q => by simp at q, fun b q => by simp at q; subst q; simp, by decide⟩
  · exact h.drop j
theorem deed10 (a b : Lbl) : deedR 10 a b = parR a := rfl
section
variable {prog : Program} {w : World} {H0 : Heap} {p : Program} {loose : List Str} {mg mb : Str → Option Value}
theorem fn_alone {ls : Lbl} {F : Int} (hl : Good ls) (hF : 0 ≤ F) : Fn (gi prog w H0 p loose mg mb) 10 (.ref 529) [.name ls, lv ls, .int F] (.ok (.bool true)) := by
  have ll := hl.len
  refine Fn.intro (n := 9) (names := ["x", "labels", "far"]) (loc := ["size", "depth", "z", "j"]) (xs := []) (dx := []) (by rfl) (by kernel_rfl) (fun vs s hv _ => ?bind) (fun _ _ => by simp only [RepL]) (by decide +kernel) rfl (by decide +kernel) (by decide +kernel) ?_
  case bind =>
    match vs, hv with
    | [a, b, c], _ => exact BindsTo.of_eq rfl
  rintro ⟨⟨sc, lo, gl, ce, qu, fu, co, fr, bu⟩, A, st, ou, hE, xs', ys'⟩ ok hs hx' hy hc'
  dsimp only at hs hx' hy hc'
  subst hs hx' hy hc'
  have e1 : ((ls.map V.bytes).length : Int) = (ls.length : Int) := by simp
  let R : Option B → En := fun z => [some (.sh (.name ls)), some (.sh (lv ls)), some (.sh (.int F)), some (.sh (.int (ls.length : Int))), none, z, none]
  refine Ex.assign ok 3 rfl (d := .int (ls.length : Int)) (e1 ▸ Ev.callB ok rfl gv_len kept_builtin (Evs.cons ok (Ev.name ok 1 rfl rfl) Evs.nil rfl) Bi.lenList) ?_
  refine Ex.ifR ok (c := decide (((ls.length : Nat) : Int) ≠ (ls.length : Int)) || (absL ls != absL ls)) (Te.bool (TAll.or_cons ok (Te.cmp ok (Ev.callB ok rfl gv_len kept_builtin (Evs.cons ok (Ev.name ok 0 rfl rfl) Evs.nil rfl) (bi_len (by decide) (by omega))) (Ev.name ok 3 rfl rfl) Op2.ne) fun _ => TAll.or1 ok (Te.cmp ok (Ev.meth0 ok isAbsM (m := 2) (by decide) (Ev.name ok 0 rfl rfl) fn_is_abs) (Ev.call ok rfl gv_absolute (.inr (by kernel_rfl)) (m := 2) (by decide) (Evs.cons ok (Ev.name ok 1 rfl rfl) Evs.nil rfl) fn_absolute) (Op2.eqB (by decide))))) (fun h => by simp at h) (fun _ => ?_)
  -- depths outside
  refine Ex.seq (O₁ := fun o => o = .next (R none)) (Ex.for (τ := Unit) ok 4 rfl (ItSrc.list (ds := [.int (-1), .int (-F - 1), .int ((ls.length : Int) + 1), .int ((ls.length : Int) + F + 1)]) ok (Ev.listD ok (Evs.cons ok (Ev.neg Ev.cint) (Evs.cons ok (Ev.bin ok (Ev.neg (Ev.name ok 2 rfl rfl)) Ev.cint Op2.sub) (Evs.cons ok (Ev.bin ok (Ev.name ok 3 rfl rfl) Ev.cint Op2.add) (Evs.cons ok (Ev.bin ok (Ev.bin ok (Ev.name ok 3 rfl rfl) (Ev.name ok 2 rfl rfl) Op2.add) Ev.cint Op2.add) Evs.nil rfl) rfl) rfl) rfl) (by simp))) (fun _ => R none) (fun _ _ => True) () (.keep (.keep (.keep (.keep (.keep (.keep (.keep .nil))))))) trivial ?turn1 (fun _ _ => rfl)) ?rest1 (fun o h hn => (hn _ h).elim)
  case turn1 =>
    intro k t d hd _
    obtain ⟨m, rfl, hm⟩ : ∃ m : Int, d = .int m ∧ ¬ (0 ≤ m ∧ m ≤ (ls.length : Int)) := by
      have := List.mem_of_getElem? hd
      simp only [List.mem_cons, List.not_mem_nil, or_false] at this
      rcases this with rfl | rfl | rfl | rfl
      · exact ⟨_, rfl, by omega⟩
      · exact ⟨_, rfl, by omega⟩
      · exact ⟨_, rfl, by omega⟩
      · exact ⟨_, rfl, by omega⟩
    have hc : cutR ls m = .int 1 := by unfold cutR; rw [if_neg hm]
    refine Ex.ifR ok (c := decide ((1 : Int) ≠ 1)) (Te.cmp ok (Ev.call ok rfl gv_cut (.inr (by kernel_rfl)) (m := 8) (by decide) (Evs.cons ok (Ev.name ok 0 rfl rfl) (Evs.cons ok (Ev.name ok 4 rfl rfl) Evs.nil rfl) rfl) (hc ▸ fn_cut hl)) Ev.cint Op2.ne) (fun h => by simp at h) (fun _ => Ex.nil ⟨(), trivial, .keep (.keep (.keep (.keep (.drop (.keep (.keep .nil))))))⟩)
  case rest1 =>
  intro ρ' h; injection h with h; subst h
  -- every depth
  refine Ex.seq (O₁ := fun o => o = .next (R none)) (Ex.for (τ := Unit) ok 4 rfl (ItSrc.range1 (a := (ls.length : Int) + 1) ok rfl gv_range (Ev.bin ok (Ev.name ok 3 rfl rfl) Ev.cint Op2.add) (by omega) (by omega)) (fun _ => R none) (fun _ _ => True) () (.keep (.keep (.keep (.keep (.keep (.keep (.keep .nil))))))) trivial ?turn2 (fun _ _ => rfl)) ?rest2 (fun o h hn => (hn _ h).elim)
  case turn2 =>
    intro k t d hd _
    obtain ⟨hk, rfl⟩ := vr_at hd
    have hk' : k ≤ ls.length := by omega
    have hc : cutR ls (k : Int) = .list [lv (ls.take (ls.length - k)), lv (ls.drop (ls.length - k)), lv ls] := by
      unfold cutR; rw [if_pos (by omega)]; simp
    have ek : ((ls.length : Int) - (k : Int)) = ((ls.length - k : Nat) : Int) := by omega
    have s1 : slc (ls.map V.bytes) none (some ((ls.length : Int) - (k : Int))) = (ls.take (ls.length - k)).map .bytes := by rw [slc_map, ek, slc_lo _ _ (by omega)]
    have s2 : slc (ls.map V.bytes) (some ((ls.length : Int) - (k : Int))) none = (ls.drop (ls.length - k)).map .bytes := by rw [slc_map, ek, slc_hi _ _ (by omega)]
    have hev : V.eqv (.list [lv (ls.take (ls.length - k)), lv (ls.drop (ls.length - k)), lv ls]) (.list [lv (ls.take (ls.length - k)), lv (ls.drop (ls.length - k)), lv ls]) = true := by simp only [V.eqv, V.eqvL, eqv_self]; rfl
    refine Ex.ifR ok (c := !V.eqv (.list [lv (ls.take (ls.length - k)), lv (ls.drop (ls.length - k)), lv ls]) (.list [lv (ls.take (ls.length - k)), lv (ls.drop (ls.length - k)), lv ls])) (Te.cmp ok (Ev.call ok rfl gv_cut (.inr (by kernel_rfl)) (m := 8) (by decide) (Evs.cons ok (Ev.name ok 0 rfl rfl) (Evs.cons ok (Ev.name ok 4 rfl rfl) Evs.nil rfl) rfl) (hc ▸ fn_cut hl))
      (Ev.listD ok (Evs.cons ok (d := lv (ls.take (ls.length - k))) (by unfold lv; rw [← s1]; exact Ev.sliceList ok (Ev.name ok 1 rfl rfl) EvP.no (EvP.at (Ev.bin ok (Ev.name ok 3 rfl rfl) (Ev.name ok 4 rfl rfl) Op2.sub))) (Evs.cons ok (d := lv (ls.drop (ls.length - k))) (by unfold lv; rw [← s2]; exact Ev.sliceList ok (Ev.name ok 1 rfl rfl) (EvP.at (Ev.bin ok (Ev.name ok 3 rfl rfl) (Ev.name ok 4 rfl rfl) Op2.sub)) EvP.no) (Evs.cons ok (Ev.name ok 1 rfl rfl) Evs.nil rfl) rfl) rfl) (by simp))
      (Op2.neV 2 ?dep (by decide) (by decide) ?sup)) (fun h => by rw [hev] at h; cases h) (fun _ => Ex.nil ⟨(), trivial, .keep (.keep (.keep (.keep (.drop (.keep (.keep .nil))))))⟩)
    case dep =>
      simp only [V.dep, V.depL, lv, dep_bytes]; decide
    case sup =>
      simp only [V.sup, V.supL, sup_self]; rfl
  case rest2 =>
  intro ρ' h; injection h with h; subst h
  -- the way up
  refine Ex.assign ok 5 rfl (Ev.name ok 0 rfl rfl) ?_
  have z0 : zL ls 0 = ls := by
    unfold zL
    split
    · rename_i h
      have : ls = [] := List.length_eq_zero_iff.mp h.1.symm
      rw [this] at h; simp [absL] at h
    · rfl
  refine Ex.seq (O₁ := fun o => o = .next (R (some (.sh (.name (zL ls ls.length)))))) (Ex.for (τ := Lbl) ok 6 rfl (ItSrc.range1 (a := (ls.length : Int)) ok rfl gv_range (Ev.name ok 3 rfl rfl) (by omega) (by omega)) (fun z => R (some (.sh (.name z)))) (fun k z => z = zL ls k) ls (.keep (.keep (.keep (.keep (.keep (.keep (.keep .nil))))))) z0.symm ?turn3 ?done3) ?rest3 (fun o h hn => (hn _ h).elim)
  case done3 =>
    intro z hz; rw [hz]
    have : (vrange 0 ((ls.length : Int)).toNat).length = ls.length := by simp [vrange]
    rw [this]
  case turn3 =>
    intro j z d hd hz
    obtain ⟨hj, rfl⟩ := vr_at hd
    have hj' : j < ls.length := by omega
    subst hz
    obtain ⟨b, hb⟩ : ∃ b, ls[j]? = some b := ⟨_, List.getElem?_eq_getElem hj'⟩
    have hat : (ls.map V.bytes)[vidx (ls.map V.bytes).length (j : Int)]? = some (.bytes b) := by
      have : vidx (ls.map V.bytes).length (j : Int) = j := by unfold vidx; rw [if_neg (by omega)]; simp
      rw [this, List.getElem?_map, hb]; rfl
    refine Ex.ifR ok (c := !V.eqv (.bytes b) (.bytes b)) (Te.cmp ok (Ev.subName ok (m := 1) (by decide) (Ev.name ok 0 rfl rfl) (Ev.name ok 6 rfl rfl) (by kernel_rfl) (by kernel_rfl) (by kernel_rfl) (fn_item hb)) (Ev.sub ok (Ev.name ok 1 rfl rfl) (Ev.name ok 6 rfl rfl) (.inl rfl) (Op2.itemList hat (by omega))) (Op2.neV 0 (by simp [V.dep]) (by decide) (by decide) rfl)) (fun h => by simp [V.eqv] at h) (fun _ => ?_)
    have s1 : slc (ls.map V.bytes) (some (j : Int)) none = (ls.drop j).map .bytes := by rw [slc_map, slc_hi _ _ (by omega)]
    have s2 : slc (ls.map V.bytes) (some ((j : Int) + 1)) none = (ls.drop (j + 1)).map .bytes := by
      have : ((j : Int) + 1) = ((j + 1 : Nat) : Int) := by omega
      rw [slc_map, this, slc_hi _ _ (by omega)]
    have ec : (!V.eqv (lv (ls.drop j)) (.list [.bytes []])) = !decide (ls.drop j = [[]]) := by
      have : V.eqv (lv (ls.drop j)) (.list ([[]].map .bytes)) = decide (ls.drop j = [[]]) := by simp only [lv, V.eqv, eqv_bytes]
      rw [← this]; rfl
    refine Ex.ite ok (c := !V.eqv (lv (ls.drop j)) (.list [.bytes []])) (Te.cmp ok (by unfold lv; rw [← s1]; exact Ev.sliceList ok (Ev.name ok 1 rfl rfl) (EvP.at (Ev.name ok 6 rfl rfl)) EvP.no) (Ev.listD (ds := [.bytes []]) ok (Evs.cons ok (Ev.cbytes (by decide)) Evs.nil rfl) (by simp)) (Op2.neV 1 ?dep (by decide) (by decide) ?sup)) (fun h => ?_) (fun h => ?_)
    case dep => simp only [V.dep, lv, dep_bytes]; decide
    case sup => simp only [V.sup, lv]; exact sup_bytes _ [[]]
    · have hne : ls.drop j ≠ [[]] := by rw [ec] at h; simpa using h
      obtain ⟨n1, n2⟩ := zL_next hj' hne
      have hg := zL_good hl j
      have ht : Fn (gi prog w H0 p loose mg mb) 9 (.ref 508) [.int 10, .name (zL ls j), .name (zL ls j)] (.ok (lv (ls.drop (j + 1)))) := by
        have := fn_try (prog := prog) (w := w) (H0 := H0) (p := p) (loose := loose) (mg := mg) (mb := mb) (d := 10) hg hg (fun e => by cases e)
        rw [deed10, n2] at this; exact this
      have hpar : Fn (gi prog w H0 p loose mg mb) 7 (.ref 344) [.name (zL ls j)] (.ok (.name (ls.drop (j + 1)))) := n2 ▸ fn_par hg
      refine Ex.ifR ok (c := !V.eqv (lv (ls.drop (j + 1))) (lv (ls.drop (j + 1)))) (Te.cmp ok (Ev.call ok rfl gv_try (.inr (by kernel_rfl)) (m := 9) (by decide) (Evs.cons ok Ev.cint (Evs.cons ok (Ev.name ok 5 rfl rfl) (Evs.cons ok (Ev.name ok 5 rfl rfl) Evs.nil rfl) rfl) rfl) ht) (by conv => { rhs; unfold lv }; rw [← s2]; exact Ev.sliceList ok (Ev.name ok 1 rfl rfl) (EvP.at (Ev.bin ok (Ev.name ok 6 rfl rfl) Ev.cint Op2.add)) EvP.no) (Op2.neV 1 (dep_self _) (by decide) (by decide) (sup_self _))) (fun h => by rw [eqv_self] at h; cases h) (fun _ => ?_)
      refine Ex.assign ok 5 rfl (Ev.meth0 ok parM (m := 7) (by decide) (Ev.name ok 5 rfl rfl) hpar) (Ex.nil ⟨ls.drop (j + 1), n1.symm, .keep (.keep (.keep (.keep (.keep (.keep (.drop .nil))))))⟩)
    · have heq : ls.drop j = [[]] := by rw [ec] at h; simpa using h
      exact Ex.nil ⟨zL ls j, (zL_stay hj' heq).symm, .keep (.keep (.keep (.keep (.keep (.keep (.drop .nil))))))⟩
  case rest3 =>
  intro ρ' h; injection h with h; subst h
  have hg := zL_good hl ls.length
  have ht : Fn (gi prog w H0 p loose mg mb) 9 (.ref 508) [.int 10, .name (zL ls ls.length), .name (zL ls ls.length)] (.ok (.int 3)) := by
    have := fn_try (prog := prog) (w := w) (H0 := H0) (p := p) (loose := loose) (mg := mg) (mb := mb) (d := 10) hg hg (fun e => by cases e)
    rw [deed10, zL_end] at this; exact this
  have e : V.bool true = .bool (decide ((3 : Int) = 3)) := rfl
  rw [e]
  exact Ex.retV ok (Ev.cmp ok (Ev.call ok rfl gv_try (.inr (by kernel_rfl)) (m := 9) (by decide) (Evs.cons ok Ev.cint (Evs.cons ok (Ev.name ok 5 rfl rfl) (Evs.cons ok (Ev.name ok 5 rfl rfl) Evs.nil rfl) rfl) rfl) ht) Ev.cint Op2.eq)
end
theorem drawL_nonneg (ns : List Int) (i : Nat) : 0 ≤ drawL ns i := by
  unfold drawL
  split
  · exact Int.fmod_nonneg_of_pos _ (by decide)
  · have h1 : (0 : Int) ≤ (i : Int) := by omega
    have h2 : (0 : Int) ≤ 97 * i * i := Int.mul_nonneg (by omega) h1
    omega
section
variable {prog : Program} {w : World} {H0 : Heap} {p : Program} {loose : List Str} {mg mb : Str → Option Value}
theorem gv_lname : GV (gi prog w H0 p loose mg mb) "_law_name" (.ref 473) := GV.glob (by kernel_rfl) (by rfl)
theorem gv_draw : GV (gi prog w H0 p loose mg mb) "_law_draw" (.ref 432) := GV.glob (by kernel_rfl) (by rfl)
theorem gv_pair : GV (gi prog w H0 p loose mg mb) "_law_pair" (.ref 515) := GV.glob (by kernel_rfl) (by rfl)
theorem gv_alone : GV (gi prog w H0 p loose mg mb) "_law_alone" (.ref 529) := GV.glob (by kernel_rfl) (by rfl)
theorem fn_law {ns : List Int} : Fn (gi prog w H0 p loose mg mb) 11 (.ref 534) [.scr ns] (.ok (.bool true)) := by
  have hgood := rowsN_good ns
  refine Fn.intro (n := 10) (names := ["script"]) (loc := ["rows", "i", "names", "j"]) (xs := []) (dx := []) (by rfl) (by kernel_rfl) (fun vs s hv _ => bind1 (fun v => by rfl) vs s hv) (fun _ _ => by simp only [RepL]) (by decide +kernel) rfl (by decide +kernel) (by decide +kernel) ?_
  rintro ⟨⟨sc, lo, gl, ce, qu, fu, co, fr, bu⟩, A, st, ou, hE', xs', ys'⟩ ok hs hx hy hc
  dsimp only at hs hx hy hc
  subst hs hx hy hc
  refine Ex.assignO ok 1 rfl (EvO.listD (ds := []) ok Evs.nil (by decide)) rfl ?_
  refine Ex.seq (O₁ := fun o => o = .next [some (.sh (.scr ns)), some (.li ((rowsN ns 3).map lv)), none, none, none])
    (Ex.for (τ := Nat) ok 2 rfl (ItSrc.range1 (a := 3) ok rfl gv_range Ev.cint (by decide) (by decide))
      (fun k => [some (.sh (.scr ns)), some (.li ((rowsN ns k).map lv)), none, none, none]) (fun k t => t = k) 0 (.keep (.keep (.drop (.drop (.drop .nil))))) rfl ?turn0 ?done0) ?rest0 (fun o h hn => (hn _ h).elim)
  case done0 =>
    intro t hJ; subst hJ; rfl
  case turn0 =>
    intro k t d hd hJ
    subst hJ
    obtain ⟨hk, rfl⟩ := vr_at hd
    have hk4 : t < 3 := hk
    have hE : ∀ b ∈ rowsN ns t, b.length ≤ 400 ∧ ∀ l ∈ b, l.length ≤ 500 := fun b hb => by
      have g := hgood t b hb
      have := g.len
      exact ⟨by omega, fun l hl => by have := g.mem hl; omega⟩
    refine Ex.append ok 1 rfl rfl (Ev.callBo ok rfl gv_lname (.inr (by kernel_rfl)) (m := 4) (by decide) (Ev.call ok rfl gv_draw (.inr (by kernel_rfl)) (m := 1) (by decide) (Evs.cons ok (Ev.name ok 0 rfl rfl) (Evs.cons ok (Ev.name ok 2 rfl rfl) Evs.nil rfl) rfl) (fn_draw (by omega))) (LName.li 1 rfl rfl) (FnA.fnB (ds := [_]) (fn_lname (by rw [rowsN_len]; omega) hE))) (by rw [List.length_map, rowsN_len]; exact small_line (by omega)) (Ex.nil ⟨t + 1, rfl, ?_⟩)
    have e : ((rowsN ns (t + 1)).map lv) = ((rowsN ns t).map lv) ++ [lv (nameL (drawL ns t) (rowsN ns t))] := by simp [rowsN]
    simp only [e]
    exact .keep (.keep (.drop (.drop (.drop .nil))))
  case rest0 =>
  intro ρ' h; injection h with h; subst h
  refine Ex.freeze (i := 1) (ds := (rowsN ns 3).map lv) ok rfl ?_
  have hlen := rowsN_len ns 3
  have hg := hgood 3
  generalize rowsN ns 3 = rows at hlen hg
  refine Ex.assignComp ok 3 rfl (es := rows.map .name) (CompOk.plain ⟨by decide +kernel, by rfl, by decide +kernel, by rfl, by decide +kernel, by decide +kernel, fun y hy => nomatch hy⟩ (by decide +kernel) (ItSrc.list ok (Ev.name ok 1 rfl rfl)) (by rw [List.length_map]; exact small_line (by omega)) (by simp) ?el1) ?_ (by rfl)
  case el1 =>
    intro k d e hd he
    obtain ⟨b, hb, rfl⟩ := names_at hd
    obtain ⟨b', hb', rfl⟩ := names_at he
    rw [hb] at hb'; injection hb' with hb'; subst hb'
    have hl := hg b (List.mem_of_getElem? hb)
    have hll := hl.len
    rintro ⟨⟨sc, lo, gl, ce, qu, fu, co, fr, bu⟩, A, st, ou, hE, xs, ys⟩ ok'' hs hx hy
    dsimp only at hs hx hy
    subst hs hx hy
    exact Ev.call ok'' rfl gv_Name (.inr (by kernel_rfl)) (m := 5) (by decide) (Evs.cons ok'' (Ev.name ok'' 0 rfl rfl) Evs.nil rfl) (fn_Name hl.lawful (by omega))
  let R0 : En := [some (.sh (.scr ns)), some (.sh (.list (rows.map lv))), none, some (.sh (.list (rows.map .name))), none]
  refine Ex.seq (O₁ := fun o => o = .next R0) ?loop1 ?rest1 (fun o h hn => (hn _ h).elim)
  case loop1 =>
    refine Ex.for (τ := Unit) ok 2 rfl (ItSrc.range1 (a := 3) ok rfl gv_range Ev.cint (by decide) (by decide)) (fun _ => R0) (fun _ _ => True) () (.keep (.keep (.drop (.keep (.drop .nil))))) trivial ?turn1 (fun t _ => rfl)
    intro k t d hd _
    obtain ⟨hk, rfl⟩ := vr_at hd
    have hk' : k < rows.length := by rw [hlen]; exact hk
    obtain ⟨a, ha⟩ : ∃ a, rows[k]? = some a := ⟨_, List.getElem?_eq_getElem hk'⟩
    have hga := hg a (List.mem_of_getElem? ha)
    refine Ex.seq (O₁ := fun o => o = .next (R0.set 2 (some (.sh (.int k))))) (Ex.for (τ := Unit) ok 4 rfl (ItSrc.range1 (a := 3) ok rfl gv_range Ev.cint (by decide) (by decide)) (fun _ => R0.set 2 (some (.sh (.int k)))) (fun _ _ => True) () (.keep (.keep (.keep (.keep (.drop .nil))))) trivial ?turn2 (fun t _ => rfl)) ?rest2 (fun o h hn => (hn _ h).elim)
    case turn2 =>
      intro j t d hd _
      obtain ⟨hj, rfl⟩ := vr_at hd
      have hj' : j < rows.length := by rw [hlen]; exact hj
      obtain ⟨b, hb⟩ : ∃ a, rows[j]? = some a := ⟨_, List.getElem?_eq_getElem hj'⟩
      have hgb := hg b (List.mem_of_getElem? hb)
      refine Ex.ifR ok (c := !true) (Te.not (Te.val (Ev.call ok rfl gv_pair (.inr (by kernel_rfl)) (m := 10) (by decide) (Evs.cons ok (Ev.sub ok (Ev.name ok 3 rfl rfl) (Ev.name ok 2 rfl rfl) (.inl rfl) (Op2.itemList (at_of ha) (by omega))) (Evs.cons ok (Ev.sub ok (Ev.name ok 3 rfl rfl) (Ev.name ok 4 rfl rfl) (.inl rfl) (Op2.itemList (at_of hb) (by omega))) (Evs.cons ok (Ev.sub ok (Ev.name ok 1 rfl rfl) (Ev.name ok 2 rfl rfl) (.inl rfl) (Op2.itemList (at_of ha) (by omega))) (Evs.cons ok (Ev.sub ok (Ev.name ok 1 rfl rfl) (Ev.name ok 4 rfl rfl) (.inl rfl) (Op2.itemList (at_of hb) (by omega))) Evs.nil rfl) rfl) rfl) rfl) (fn_pair hga hgb (pairOk hga hgb))))) (fun h => by cases h) (fun _ => Ex.nil ⟨(), trivial, .keep (.keep (.keep (.keep (.drop .nil))))⟩)
    case rest2 =>
      intro ρ' h; injection h with h; subst h
      refine Ex.ifR ok (c := !true) (Te.not (Te.val (Ev.call ok rfl gv_alone (.inr (by kernel_rfl)) (m := 10) (by decide) (Evs.cons ok (Ev.sub ok (Ev.name ok 3 rfl rfl) (Ev.name ok 2 rfl rfl) (.inl rfl) (Op2.itemList (at_of ha) (by omega))) (Evs.cons ok (Ev.sub ok (Ev.name ok 1 rfl rfl) (Ev.name ok 2 rfl rfl) (.inl rfl) (Op2.itemList (at_of ha) (by omega))) (Evs.cons ok (Ev.call ok rfl gv_draw (.inr (by kernel_rfl)) (m := 1) (by decide) (Evs.cons ok (Ev.name ok 0 rfl rfl) (Evs.cons ok Ev.cint Evs.nil rfl) rfl) (fn_draw (i := 3) (by decide))) Evs.nil rfl) rfl) rfl) (fn_alone hga (drawL_nonneg ns 3))))) (fun h => by cases h) (fun _ => Ex.nil ⟨(), trivial, .keep (.keep (.drop (.keep (.drop .nil))))⟩)
  case rest1 =>
  intro ρ' h; injection h with h; subst h
  refine Ex.seq (O₁ := fun o => o = .next R0) ?loop2 ?rest3 (fun o h hn => (hn _ h).elim)
  case loop2 =>
    refine Ex.for (τ := Unit) ok 2 rfl (ItSrc.range1 (a := 3) ok rfl gv_range Ev.cint (by decide) (by decide)) (fun _ => R0) (fun _ _ => True) () (.keep (.keep (.drop (.keep (.drop .nil))))) trivial ?turn3 (fun t _ => rfl)
    intro k t d hd _
    obtain ⟨hk, rfl⟩ := vr_at hd
    have hk' : k < rows.length := by rw [hlen]; exact hk
    obtain ⟨a, ha⟩ : ∃ a, rows[k]? = some a := ⟨_, List.getElem?_eq_getElem hk'⟩
    have hga := hg a (List.mem_of_getElem? ha)
    refine Ex.ifR ok (c := !V.eqv (lv a) (lv a)) (Te.cmp ok (Ev.callB ok rfl gv_list kept_type (Evs.cons ok (Ev.labels ok labK (Ev.sub ok (Ev.name ok 3 rfl rfl) (Ev.name ok 2 rfl rfl) (.inl rfl) (Op2.itemList (at_of ha) (by omega)))) Evs.nil rfl) Bi.listT) (Ev.sub ok (Ev.name ok 1 rfl rfl) (Ev.name ok 2 rfl rfl) (.inl rfl) (Op2.itemList (at_of ha) (by omega))) (Op2.neV 1 (dep_self a) (by decide) (by decide) (sup_self a))) (fun h => by rw [eqv_self] at h; cases h) (fun _ => ?_)
    refine Ex.ifR ok (c := !V.eqv (lv a) (lv a)) (Te.cmp ok (Ev.callB ok rfl gv_list kept_type (Evs.cons ok (Ev.labels ok labK (Ev.meth0 ok choM (m := 8) (by decide) (Ev.sub ok (Ev.name ok 3 rfl rfl) (Ev.name ok 2 rfl rfl) (.inl rfl) (Op2.itemList (at_of ha) (by omega))) (fn_cho (o := none) (b := true) (dx := [.none, .bool true]) (xs := [.none, .bool true]) hga (fun q h => by cases h) rfl (.inr (.inr ⟨rfl, rfl⟩))))) Evs.nil rfl) Bi.listT) (Ev.sub ok (Ev.name ok 1 rfl rfl) (Ev.name ok 2 rfl rfl) (.inl rfl) (Op2.itemList (at_of ha) (by omega))) (Op2.neV 1 (dep_self a) (by decide) (by decide) (sup_self a))) (fun h => by rw [eqv_self] at h; cases h) (fun _ => ?_)
    exact Ex.nil ⟨(), trivial, .keep (.keep (.drop (.keep (.drop .nil))))⟩
  case rest3 =>
  intro ρ' h; injection h with h; subst h
  exact Ex.retV ok Ev.cbool
end
theorem low_of {K : Frag} {h : Heap} (X : K.In h) {N : Nat} (hN : (K.map (·.1)).all (fun a => decide (a < N)) = true) : ∃ H1 : Heap, K.In H1 ∧ (∀ b o, H1.get? b = some o → h.get? b = some o) ∧ H1.objs.size ≤ N := by
  have key : ∀ b, b < N → ({ h with objs := h.objs.extract 0 N } : Heap).get? b = h.get? b := fun b hb => by
    have e : (h.objs.extract 0 N)[b]? = h.objs[b]? := by
      by_cases hs : b < h.objs.size
      · rw [Array.getElem?_eq_getElem hs, Array.getElem?_eq_getElem (by rw [Array.size_extract]; omega), Array.getElem_extract]; simp
      · have e1 : (h.objs.extract 0 N)[b]? = none := Array.getElem?_eq_none (by rw [Array.size_extract]; omega)
        have e2 : h.objs[b]? = none := Array.getElem?_eq_none (by omega)
        rw [e1, e2]
    show (match (h.objs.extract 0 N)[b]? with | some ⟨_, _, .freed, _⟩ => none | o => o) = _
    rw [e]; rfl
  refine ⟨{ h with objs := h.objs.extract 0 N }, fun a o ha => ?_, fun b o e => ?_, ?_⟩
  · have hm : a ∈ K.map (·.1) := by
      clear hN key X
      induction K with
      | nil => cases ha
      | cons p r ih =>
        obtain ⟨b, o'⟩ := p
        by_cases q : a = b
        · subst q; exact .head _
        · have q' : (a == b) = false := by simpa using q
          rw [List.lookup_cons, q'] at ha
          exact .tail _ (ih ha)
    have hl : a < N := by simpa using List.all_eq_true.mp hN a hm
    rw [key a hl]; exact X a o ha
  · by_cases hb : b < N
    · rw [key b hb] at e; exact e
    · have : (h.objs.extract 0 N)[b]? = none := by
        refine Array.getElem?_eq_none ?_; rw [Array.size_extract]; exact Nat.le_trans (by omega) (Nat.not_lt.mp hb)
      have e' : (match (h.objs.extract 0 N)[b]? with | some ⟨_, _, .freed, _⟩ => none | o => o) = some o := e
      rw [this] at e'; cases e'
  · show (h.objs.extract 0 N).size ≤ N
    rw [Array.size_extract]; omega
theorem last {q : Program} {loose : List Str} {XP : (Str → Option Value) → Heap → Prop} {as0 : List Addr} {e : ∀ P, as0 = (Mine.k0.heap_1 P).map (·.1)} {d : DefRec} {kwd : List (Str × Expr)} (hn : d.name = "law") :
    WalkO q loose XP (kHook Mine.k0.heap_1 as0 e).says (PySem.Challenge.rw_ji0017_03.row.toRowW) d kwd fun f vs => call f vs := by
  intro w s₀ s₁ mg mb G Y fa o pm cd doc dV kV ho hd hcd hD hmg hg args vals as hpre hlay hrd hwl hlo
  have KX := kIn_of Y
  refine Ground.open G ?_
  intro T B D TE TW
  wrow_args hpre hlay hrd hwl hlo
  refine enter_call ?_
  rename_i ns _hs _h0 _hL1 _hr1 _hl2 _w4 _w3 l vs _w hL ra _w1 _r0 hI _hr hcond _hc2
  have TR := topRead_of T
  have efa : fa = 534 := by
    have h1 := mg_of (n := "law") (v := .ref 534) KX TR.g (by kernel_rfl)
    rw [hn, h1] at hmg
    injection hmg with h; injection h with h; exact h.symm
  subst efa
  have gok : (gi PySem.Challenge.rw_ji0017_03.row.prog w s₁.heap q (looseW q loose) mg mb).Ok :=
    ⟨KX, low_of (N := 535) KX (by kernel_rfl), ⟨534, _, by rfl, Nat.le_refl _⟩, TR⟩
  have hvl : vs.length = ns.length := hI.length
  have hnl : ns.length ≤ 63 := by omega
  obtain ⟨ol, hol, hoc, nl, hod⟩ := hL
  refine fn_law (ns := ns) (p := q) (mg := mg) (mb := mb) (H0 := s₁.heap) callerA [] (fun _ => False) [.ref l] s₁ _ gok rfl rfl ⟨by decide +kernel, by decide +kernel⟩ ⟨fun _ _ e => e, trivial⟩ (fun _ h => nomatch h) (fun _ h => h.elim) (fun _ h => h.elim) ?_ ?_ ?_
  · simp only [RepL, Rep]
    exact ⟨.ref l, [], rfl, ⟨l, ol, vs, nl, rfl, ⟨hol, fun h => h⟩, hoc, hod, hI, small_line (by omega)⟩, rfl⟩
  · intro v d' h' tk er k r
    injection er with er; subst er
    simp only [Rep] at r; subst r
    refine ⟨.inl ⟨.bool true, ?_, [], rfl, fun _ => rfl, ?_, ?_, fun _ => ⟨List.nodup_nil, fun _ h => nomatch h⟩⟩, .of_keep fun b o e => (k b o e).1 (fun h => nomatch h), rfl, .of_eq hg⟩
    · exact .bool true
    · exact .bool true
    · kernel_rfl
  · intro c e a0 h' tk er
    cases er
end
end Mine
def Mine.top.tw161413754352824131 : Unit := ()
def Mine.top.tw5830406356053589288 : Unit := ()
def Mine.top.tw16435007203628221307 : Unit := ()
def Mine.top.tw995775220138220913 : Unit := ()
def Mine.top.tw5001639022597696564 : Unit := ()
def Mine.top.tw15641169326473039285 : Unit := ()
def Mine.top.tw753989350850391506 : Unit := ()
def Mine.top.tw3352738760509787134 : Unit := ()
def Mine.top.tw9437893007894698314 : Unit := ()
def Mine.top.tw27288501590029017 : Unit := ()
def Mine.top.tw1725896835477364554 : Unit := ()
def Mine.top.tw5977478716191010641 : Unit := ()
def Mine.top.tw210958173642056445 : Unit := ()
def Mine.top.tw1148359839396282423 : Unit := ()
def Mine.top.tw15088979973893423861 : Unit := ()
def Mine.top.tw13506075022893628865 : Unit := ()
def Mine.top.tw13551177008130736254 : Unit := ()
def Mine.top.tw6059214236811000342 : Unit := ()
def Mine.top.tw14020629218432114621 : Unit := ()
def Mine.top.tw9465783595903631515 : Unit := ()
def Mine.top.tw2446451932059125521 : Unit := ()
def Mine.top.tw14347721165454393637 : Unit := ()
def Mine.top.tw2601905985415302144 : Unit := ()
def Mine.top.tw12425085872883035938 : Unit := ()
def Mine.top.tw4321519831107876412 : Unit := ()
def Mine.top.tw13187519465064655849 : Unit := ()
def Mine.top.tw3909029901177050473 : Unit := ()
def Mine.top.tw10864713392326063847 : Unit := ()
def Mine.top.tw11666624071039921002 : Unit := ()
def Mine.top.tw7527032243904285869 : Unit := ()
def Mine.top.tw13890846271309207196 : Unit := ()
def Mine.top.tw18374746225686918389 : Unit := ()
def Mine.top.tw14248925298954806443 : Unit := ()
def Mine.top.tw8637452081102412489 : Unit := ()
def Mine.top.tw11383000496634168614 : Unit := ()
def Mine.top.tw14983691940233647259 : Unit := ()
def Mine.top.tw9843949296442739443 : Unit := ()
def Mine.top.tw411662067469150650 : Unit := ()
def Mine.top.tw15271675978053873483 : Unit := ()
def Mine.top.tw16264823338695392855 : Unit := ()
def Mine.top.tw1297684725254868899 : Unit := ()
def Mine.top.tw2506305409684761478 : Unit := ()
def Mine.top.tw10694878333477680388 : Unit := ()
def Mine.top.tw279221788311839977 : Unit := ()
def Mine.top.tw2686433634493928565 : Unit := ()
def Mine.top.tw14372152842798730730 : Unit := ()
def Mine.top.tw10083753850511284816 : Unit := ()
def Mine.top.tw14826035006057030972 : Unit := ()
def Mine.top.tw16900427199656544559 : Unit := ()
def Mine.top.tw795583310449317561 : Unit := ()
def Mine.top.tw5915399644114372684 : Unit := ()
def Mine.top.tw14796646475526232899 : Unit := ()
def Mine.top.tw2924597203103170677 : Unit := ()
def Mine.top.tw672699306608606093 : Unit := ()
def Mine.top.tw16759092144687519636 : Unit := ()
def Mine.top.tw14608685727046917156 : Unit := ()
def Mine.top.tw8622502720953521162 : Unit := ()
def Mine.top.tw2731995056826638727 : Unit := ()
def Mine.top.tw6621670593625495552 : Unit := ()
def Mine.top.tw594810645892935528 : Unit := ()
def Mine.top.tw4076138812419527698 : Unit := ()
def Mine.top.tw10936122117785486979 : Unit := ()
def Mine.top.tw13091174067606910046 : Unit := ()
def Mine.top.tw9272544492142499777 : Unit := ()
def Mine.top.tw2126296398998916975 : Unit := ()
def Mine.top.tw6491118196486620199 : Unit := ()
def Mine.top.tw18185382058313985135 : Unit := ()
def Mine.top.tw708234853630380328 : Unit := ()
def Mine.top.tw6930518751129746686 : Unit := ()
def Mine.top.tw6906291655842520137 : Unit := ()
def Mine.top.tw9739860059890490050 : Unit := ()
def Mine.top.tw13899568491130100285 : Unit := ()
def Mine.top.tw2365566498512967660 : Unit := ()
def Mine.top.tw14168018189251442112 : Unit := ()
def Mine.top.tw10467260515200827399 : Unit := ()
def Mine.top.tw1040915598704419856 : Unit := ()
def Mine.top.tw17177869089781658578 : Unit := ()
def Mine.top.tw10001883323181062329 : Unit := ()
def Mine.top.tw9919435345466941130 : Unit := ()
def Mine.top.tw9743097575036673082 : Unit := ()
def Mine.top.tw15245507539482535896 : Unit := ()
def Mine.top.tw93012567124736588 : Unit := ()
def Mine.top.tw2972514686349903234 : Unit := ()
def Mine.top.tw4840481374290595910 : Unit := ()
def Mine.top.tw8043003576528973991 : Unit := ()
def Mine.top.tw2007660962349395123 : Unit := ()
def Mine.top.tw14632489290957082403 : Unit := ()
def Mine.top.tw11762496359356365647 : Unit := ()
set_option Elab.async true
theorem Mine.top : PySem.Challenge.rw_ji0017_03.Holds := by
  w_on; o_law; o_head (kHook Mine.k0.heap_1 [2, 3, 15, 17, 18, 20, 21, 22, 29, 30, 31, 32, 35, 42, 43, 44, 47, 54, 55, 56, 66, 67, 68, 69, 70, 73, 80, 81, 82, 85, 92, 93, 94, 97, 104, 105, 106, 109, 116, 117, 118, 121, 128, 129, 130, 133, 135, 136, 138, 139, 140, 142, 143, 145, 146, 154, 157, 158, 159, 161, 162, 164, 165, 166, 168, 169, 171, 172, 173, 175, 176, 178, 179, 180, 182, 183, 185, 186, 187, 189, 190, 192, 193, 194, 196, 197, 199, 200, 201, 203, 204, 206, 207, 208, 210, 211, 213, 214, 215, 217, 218, 220, 221, 222, 224, 225, 227, 228, 229, 231, 232, 234, 235, 236, 238, 239, 241, 242, 243, 244, 246, 247, 249, 250, 251, 253, 254, 256, 257, 258, 259, 261, 262, 264, 265, 266, 267, 269, 270, 272, 273, 274, 276, 277, 279, 280, 281, 283, 284, 286, 287, 288, 290, 291, 293, 294, 295, 297, 298, 300, 301, 302, 304, 305, 307, 308, 309, 311, 312, 314, 315, 316, 318, 319, 321, 322, 323, 325, 326, 328, 329, 330, 331, 333, 334, 336, 337, 338, 340, 341, 343, 344, 345, 346, 348, 349, 351, 352, 353, 354, 356, 357, 359, 360, 361, 362, 363, 364, 365, 369, 370, 379, 385, 386, 394, 415, 416, 417, 418, 419, 420, 421, 422, 423, 424, 425, 426, 428, 429, 431, 432, 433, 435, 436, 438, 439, 440, 442, 443, 445, 446, 447, 450, 451, 452, 455, 456, 457, 459, 460, 462, 463, 464, 467, 468, 469, 472, 473, 474, 476, 477, 479, 480, 481, 483, 484, 486, 487, 488, 490, 491, 493, 494, 495, 497, 498, 500, 501, 502, 504, 505, 507, 508, 509, 511, 512, 514, 515, 516, 518, 519, 521, 522, 523, 525, 526, 528, 529, 530, 533, 534] (fun _ => by kernel_rfl)); (case hw => w_witness2)
  exact Mine.last rfl
set_option Elab.async false
theorem PySem.Challenge.cw_ji0017_03_holds : PySem.Challenge.rw_ji0017_03.Holds :=
  Mine.top
