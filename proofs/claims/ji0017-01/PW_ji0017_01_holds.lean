import PyProof.Rows.All
import Wide.All
import OpenK.AllK
import Wide.FinOn
import Lean
import PySem.Challenge.RW_ji0017_01
open PySem PySem.W PyProof.Rows PySem.Calls
open PySem.Sem (wp)
set_option Elab.async false
set_option maxRecDepth 100000
set_option maxHeartbeats 8000000
set_option linter.all false
section
local macro_rules | `(tactic| o_head $h) => `(tactic| assumption)
theorem Mine.k0 (x : PySem.Challenge.rw_ji0017_01.row.Holds) : PySem.Challenge.rw_ji0017_01.row.Holds := by k_head
end
namespace Mine
noncomputable section
inductive V where
  | none
  | bool (b : Bool)
  | int (i : Int)
  | bytes (b : List UInt8)
  | list (l : List V)
  | tup (l : List V)
  | name (l : List (List UInt8))
  | scr (l : List Int)
  deriving Inhabited
abbrev lobj (vs : List Value) (n : Nat) : Obj := { cls := .type "list", data := .seq vs.toArray n }
abbrev tobj (vs : List Value) (n : Nat) : Obj := { cls := .type "tuple", data := .seq vs.toArray n }
def AtX (h : Heap) (X : Addr → Prop) (a : Addr) (o : Obj) : Prop := h.get? a = some o ∧ ¬ X a
mutual
def Rep (C : Addr) (h : Heap) (X : Addr → Prop) : V → Value → Prop
  | .none, v => v = .none
  | .bool b, v => v = .bool b
  | .int i, v => ∃ t, v = .int i t
  | .bytes b, v => (∃ t, v = .bytes b.toArray t) ∧ b.length ≤ sizeLine
  | .list ds, v => ∃ a vs n, v = .ref a ∧ AtX h X a (lobj vs n) ∧ RepL C h X ds vs ∧ vs.length ≤ sizeLine
  | .tup ds, v => ∃ a vs n, v = .ref a ∧ AtX h X a (tobj vs n) ∧ RepL C h X ds vs ∧ vs.length ≤ sizeLine
  | .name ls, v => ∃ x dx hs tk t vs n m, v = .ref x ∧ AtX h X x (instObj C dx) ∧ AtX h X dx (dictOf [⟨hs, .str "labels" tk, .ref t⟩] m) ∧
      AtX h X t (tobj vs n) ∧ vs.length ≤ sizeLine ∧
      (∀ b ∈ ls, b.length ≤ sizeLine) ∧ ∃ tks : List Tok, tks.length = ls.length ∧ vs = (ls.zip tks).map fun p => .bytes p.1.toArray p.2
  | .scr ns, v => ∃ a o vs n, v = .ref a ∧ AtX h X a o ∧ o.cls = .type "list" ∧ o.data = .seq vs.toArray n ∧ IntsAre vs ns ∧ vs.length ≤ sizeLine
def RepL (C : Addr) (h : Heap) (X : Addr → Prop) : List V → List Value → Prop
  | [], vs => vs = []
  | d :: ds, vs => ∃ v r, vs = v :: r ∧ Rep C h X d v ∧ RepL C h X ds r
end
def Kf (fs : List Addr) (h h' : Heap) : Prop :=
  ∀ b o, h.get? b = some o → (b ∉ fs → h'.get? b = some o) ∧ (∃ sl, h'.get? b = some { o with slots := sl })
theorem Kf.refl (fs : List Addr) (h : Heap) : Kf fs h h := fun _ o e => ⟨fun _ => e, o.slots, e⟩
theorem Kf.trans {fs : List Addr} {h₁ h₂ h₃ : Heap} (x : Kf fs h₁ h₂) (y : Kf fs h₂ h₃) : Kf fs h₁ h₃ := fun b o e => by
  obtain ⟨p, sl, q⟩ := x b o e
  refine ⟨fun n => (y b o (p n)).1 n, ?_⟩
  obtain ⟨_, sl', q'⟩ := y b _ q
  exact ⟨sl', q'⟩
theorem Kf.of_keeps {fs : List Addr} {h h' : Heap} (k : ∀ b o, h.get? b = some o → h'.get? b = some o) : Kf fs h h' := fun b o e => ⟨fun _ => k b o e, o.slots, k b o e⟩
theorem Kf.mono {fs fs' : List Addr} {h h' : Heap} (x : Kf fs h h') (hs : ∀ b, b ∈ fs → b ∈ fs') : Kf fs' h h' := fun b o e => ⟨fun n => (x b o e).1 fun q => n (hs b q), (x b o e).2⟩
def KX (X : Addr → Prop) (h h' : Heap) : Prop := ∀ b o, h.get? b = some o → ¬ X b → h'.get? b = some o
theorem Kf.kx {fs : List Addr} {X : Addr → Prop} {h h' : Heap} (x : Kf fs h h') (hs : ∀ b, b ∈ fs → X b) : KX X h h' := fun b o e n => (x b o e).1 fun q => n (hs b q)
theorem AtX.mono {h h' : Heap} {X X' : Addr → Prop} {a : Addr} {o : Obj} (x : AtX h X a o) (k : KX X h h') (hX : ∀ b, X' b → X b ∨ h.get? b = none) : AtX h' X' a o :=
  ⟨k a o x.1 x.2, fun m => (hX a m).elim x.2 fun e => by rw [x.1] at e; cases e⟩
mutual
theorem Rep.mono {C : Addr} {h h' : Heap} {X X' : Addr → Prop} (k : KX X h h') (hX : ∀ b, X' b → X b ∨ h.get? b = none) : ∀ {d : V} {v : Value}, Rep C h X d v → Rep C h' X' d v
  | .none, _, r => by simpa [Rep] using r
  | .bool _, _, r => by simpa [Rep] using r
  | .int _, _, r => by simpa [Rep] using r
  | .bytes _, _, r => by simpa [Rep] using r
  | .list ds, _, r => by
    simp only [Rep] at r ⊢
    obtain ⟨a, vs, n, e1, e2, e5, e6⟩ := r
    exact ⟨a, vs, n, e1, e2.mono k hX, RepL.mono k hX e5, e6⟩
  | .tup ds, _, r => by
    simp only [Rep] at r ⊢
    obtain ⟨a, vs, n, e1, e2, e5, e6⟩ := r
    exact ⟨a, vs, n, e1, e2.mono k hX, RepL.mono k hX e5, e6⟩
  | .name ls, _, r => by
    simp only [Rep] at r ⊢
    obtain ⟨x, dx, hs, tk, t, vs, n, m, e1, e2, e5, e7, e8⟩ := r
    exact ⟨x, dx, hs, tk, t, vs, n, m, e1, e2.mono k hX, e5.mono k hX, e7.mono k hX, e8⟩
  | .scr ns, _, r => by
    simp only [Rep] at r ⊢
    obtain ⟨a, o, vs, n, e1, e2, e3⟩ := r
    exact ⟨a, o, vs, n, e1, e2.mono k hX, e3⟩
theorem RepL.mono {C : Addr} {h h' : Heap} {X X' : Addr → Prop} (k : KX X h h') (hX : ∀ b, X' b → X b ∨ h.get? b = none) : ∀ {ds : List V} {vs : List Value}, RepL C h X ds vs → RepL C h' X' ds vs
  | [], _, r => by simpa [RepL] using r
  | d :: ds, _, r => by
    simp only [RepL] at r ⊢
    obtain ⟨v, t, e, r1, r2⟩ := r
    exact ⟨v, t, e, Rep.mono k hX r1, RepL.mono k hX r2⟩
end
theorem KX.refl (X : Addr → Prop) (h : Heap) : KX X h h := fun _ _ e _ => e
theorem Rep.weak {C : Addr} {h : Heap} {X X' : Addr → Prop} {d : V} {v : Value} (r : Rep C h X d v) (hX : ∀ b, X' b → X b) : Rep C h X' d v := r.mono (KX.refl _ _) fun b m => .inl (hX b m)
theorem RepL.length {C : Addr} {h : Heap} {X : Addr → Prop} : ∀ {ds : List V} {vs : List Value}, RepL C h X ds vs → vs.length = ds.length
  | [], _, r => by simp only [RepL] at r; rw [r]; rfl
  | d :: ds, _, r => by
    simp only [RepL] at r
    obtain ⟨v, t, rfl, _, r2⟩ := r
    simp [RepL.length r2]
theorem RepL.get {C : Addr} {h : Heap} {X : Addr → Prop} : ∀ {ds : List V} {vs : List Value} {i : Nat} {d : V}, RepL C h X ds vs → ds[i]? = some d → ∃ v, vs[i]? = some v ∧ Rep C h X d v
  | [], _, _, _, _, e => by simp at e
  | d :: ds, _, i, d', r, e => by
    simp only [RepL] at r
    obtain ⟨v, t, rfl, r1, r2⟩ := r
    cases i with
    | zero => simp at e; subst e; exact ⟨v, rfl, r1⟩
    | succ i => simp at e; obtain ⟨v', e', r'⟩ := RepL.get r2 e; exact ⟨v', by simpa using e', r'⟩
theorem RepL.append {C : Addr} {h : Heap} {X : Addr → Prop} : ∀ {ds es : List V} {vs us : List Value}, RepL C h X ds vs → RepL C h X es us → RepL C h X (ds ++ es) (vs ++ us)
  | [], _, _, _, r, q => by simp only [RepL] at r; subst r; simpa using q
  | d :: ds, es, _, us, r, q => by
    simp only [RepL] at r
    obtain ⟨v, t, rfl, r1, r2⟩ := r
    simp only [List.cons_append, RepL]
    exact ⟨v, t ++ us, rfl, r1, RepL.append r2 q⟩
theorem RepL.take {C : Addr} {h : Heap} {X : Addr → Prop} : ∀ {ds : List V} {vs : List Value} (k : Nat), RepL C h X ds vs → RepL C h X (ds.take k) (vs.take k)
  | [], _, k, r => by simp only [RepL] at r; subst r; simp [RepL]
  | d :: ds, _, 0, r => by simp [RepL]
  | d :: ds, _, k + 1, r => by
    simp only [RepL] at r
    obtain ⟨v, t, rfl, r1, r2⟩ := r
    simp only [List.take_succ_cons, RepL]
    exact ⟨v, _, rfl, r1, RepL.take k r2⟩
theorem RepL.drop {C : Addr} {h : Heap} {X : Addr → Prop} : ∀ {ds : List V} {vs : List Value} (k : Nat), RepL C h X ds vs → RepL C h X (ds.drop k) (vs.drop k)
  | [], _, k, r => by simp only [RepL] at r; subst r; simp [RepL]
  | d :: ds, _, 0, r => by simpa using r
  | d :: ds, _, k + 1, r => by
    simp only [RepL] at r
    obtain ⟨v, t, rfl, r1, r2⟩ := r
    simpa using RepL.drop k r2
theorem RepL.reverse {C : Addr} {h : Heap} {X : Addr → Prop} : ∀ {ds : List V} {vs : List Value}, RepL C h X ds vs → RepL C h X ds.reverse vs.reverse
  | [], _, r => by simp only [RepL] at r; subst r; simp [RepL]
  | d :: ds, _, r => by
    simp only [RepL] at r
    obtain ⟨v, t, rfl, r1, r2⟩ := r
    simp only [List.reverse_cons]
    exact RepL.append (RepL.reverse r2) (by simp only [RepL]; exact ⟨v, [], rfl, r1, rfl⟩)
structure GI where
  prog : Program
  w : World
  K : Frag
  H0 : Heap
  C : Addr
  p : Program
  loose : List Str
  mg : Str → Option Value
  mb : Str → Option Value
  top : Nat
structure GI.Ok (g : GI) : Prop where
  X : g.K.In g.H0
  low : ∃ H1 : Heap, g.K.In H1 ∧ (∀ b o, H1.get? b = some o → g.H0.get? b = some o) ∧ H1.objs.size ≤ g.top
  topAt : ∃ a o, g.K.lookup a = some o ∧ g.top ≤ a + 1
  T : TopRead g.p g.loose g.mg g.mb g.H0
theorem GI.Ok.big {g : GI} (ok : g.Ok) {h : Heap} (X : g.K.In h) : g.top ≤ h.objs.size := by
  obtain ⟨a, o, e, ht⟩ := ok.topAt
  exact Nat.le_trans ht (Heap.lt_size (X a o e))
def fsOf (l : List Env) : List Addr := l.filterMap (·.frame)
structure CallSt (g : GI) (l : List Env) (h : Heap) : Prop where
  keep : ∀ b o, g.H0.get? b = some o → h.get? b = some o
  ff : h.FunFrames g.H0 l
structure Fm where
  env : Env
  A : Around
  stack : List Env
  outer : List Env
  hE : Heap
  xs : List Str
  ys : List Str
abbrev Fm.L (f : Fm) : Addr := f.env.locals
abbrev Fm.nm (f : Fm) : List Str := f.xs ++ f.ys
abbrev Fm.fs (f : Fm) : List Addr := f.L :: fsOf f.outer
theorem Fm.fs_eq (f : Fm) : f.fs = f.L :: fsOf f.outer := rfl
theorem Fm.nmx {f : Fm} {i : Nat} {x : Str} (hx : f.xs[i]? = some x) : f.nm[i]? = some x := by
  rw [List.getElem?_append_left (List.getElem?_eq_some_iff.mp hx).1]; exact hx
def Room (A : Around) (n : Nat) : Prop := A.depth + 3 * n < recursionLimit ∧ A.units + 8 * n < cLine
theorem Room.mono {A : Around} {n m : Nat} (h : Room A n) (hm : m ≤ n) : Room A m := ⟨by have := h.1; omega, by have := h.2; omega⟩
structure FmOk (g : GI) (f : Fm) (n : Nat) : Prop where
  G : g.Ok
  fr : f.A.frames = some f.stack
  hd : f.A.handled = none
  room : Room f.A n
  kind : f.env.scope.kind = .function
  eG : f.env.globals = mainGlobals
  eB : f.env.builtins = builtinsNs
  stk : ∀ h : Heap, (∃ o, h.get? f.L = some o ∧ ∀ vs, o.data ≠ .fields vs) → h.FunFrames g.H0 f.outer → h.FunFrames g.H0 f.stack
  sub : ∀ b ∈ fsOf f.stack, b ∈ f.fs
  big : g.top ≤ f.L
  newL : f.hE.get? f.L = none
  newL0 : g.H0.get? f.L = none
  nodup : f.nm.Nodup
  loc : ∀ x ∈ f.xs, f.env.kindOf x = some .local
  cel : ∀ x ∈ f.ys, f.env.kindOf x = some .cell
  ndb : ∀ x ∈ f.nm, (x == ("__debug__" : Str)) = false
  csE : CallSt g f.outer f.hE
theorem FmOk.ndx {g : GI} {f : Fm} {n : Nat} (ok : FmOk g f n) {x : Str} (hx : x ∈ f.xs) : (x == ("__debug__" : Str)) = false := ok.ndb x (List.mem_append_left _ hx)
inductive B where
  | sh (d : V)
  | li (l : List V)
  | ba (b : List UInt8)
  | bo (l : List V)
  | ce (d : Option V)
  | bc (d : V)
  | me (o : Option (List (List UInt8)))
  deriving Inhabited
def B.owns : B → Bool
  | .li _ | .ba _ | .ce _ | .me _ => true
  | _ => false
def B.obj : B → Bool
  | .li _ | .ba _ => true
  | _ => false
theorem B.obj_owns {b : B} (h : b.obj = true) : b.owns = true := by cases b <;> first | rfl | cases h
def MeOk (g : GI) (h : Heap) (X : Addr → Prop) (a : Addr) : Option (List (List UInt8)) → Prop
  | none => h.get? a = some emptyDict
  | some ls => ∃ hs tk t m, h.get? a = some (dictOf [⟨hs, .str "labels" tk, .ref t⟩] m) ∧ Rep g.C h X (.tup (ls.map .bytes)) (.ref t)
theorem MeOk.mono {g : GI} {h h' : Heap} {X X' : Addr → Prop} {a : Addr} {o : Option (List (List UInt8))} (v : MeOk g h X a o) (k : KX X h h') (hX : ∀ b, X' b → X b ∨ h.get? b = none) (ka : ∀ o, h.get? a = some o → h'.get? a = some o) : MeOk g h' X' a o := by
  cases o with
  | none => exact ka _ v
  | some ls => obtain ⟨hs, tk, t, m, e, r⟩ := v; exact ⟨hs, tk, t, m, ka _ e, r.mono k hX⟩
theorem MeOk.there {g : GI} {h : Heap} {X : Addr → Prop} {a : Addr} {o : Option (List (List UInt8))} (v : MeOk g h X a o) : ∃ o, h.get? a = some o := by
  cases o with
  | none => exact ⟨_, v⟩
  | some ls => obtain ⟨hs, tk, t, m, e, r⟩ := v; exact ⟨_, e⟩
def CellOk (g : GI) (h : Heap) (X : Addr → Prop) (a : Addr) : Option V → Prop
  | none => h.IsCell a none
  | some d => ∃ v, h.IsCell a (some v) ∧ Rep g.C h X d v
abbrev En := List (Option B)
def Own (ρ : En) (i : Nat) : Prop := ∃ b, ρ[i]? = some (some b) ∧ b.owns = true
structure Sp where
  Y : Addr → Prop
  α : Nat → Addr
def OwnA (σ : Sp) (ρ : En) (a : Addr) : Prop := ∃ i, Own ρ i ∧ a = σ.α i
def XOf (f : Fm) (σ : Sp) (ρ : En) : Addr → Prop := fun a => σ.Y a ∨ a = f.L ∨ OwnA σ ρ a
def VarOk (g : GI) (f : Fm) (h : Heap) (X : Addr → Prop) (m : Str → Option Value) (a : Addr) (x : Str) : B → Prop
  | .sh d => ∃ v, m x = some v ∧ Rep g.C h X d v
  | .li ds => m x = some (.ref a) ∧ ∃ vs n, h.get? a = some (lobj vs n) ∧ RepL g.C h X ds vs ∧ vs.length ≤ sizeLine
  | .ba b => m x = some (.ref a) ∧ b.length ≤ sizeLine ∧ h.get? a = some { cls := .type "bytearray", data := .bytearray b.toArray 0 }
  | .bo ds => ∃ a' vs n, m x = some (.ref a') ∧ f.hE.get? a' = some (lobj vs n) ∧ a' ∉ fsOf f.outer ∧ RepL g.C h X ds vs ∧ vs.length ≤ sizeLine
  | .ce d => f.env.cells.lookup x = some a ∧ CellOk g h X a d
  | .me o => a = f.hE.objs.size ∧ m x = some (.ref (a + 1)) ∧ h.get? (a + 1) = some (instObj g.C a) ∧ ¬ X (a + 1) ∧ MeOk g h X a o
  | .bc d => ∃ c v, f.env.cells.lookup x = some c ∧ f.hE.IsCell c (some v) ∧ c ∉ fsOf f.outer ∧ Rep g.C h X d v
structure St (g : GI) (f : Fm) (σ : Sp) (ρ : En) (h : Heap) : Prop where
  ex : ∃ m, h.Ns f.L m ∧ ∀ i x b, f.nm[i]? = some x → ρ[i]? = some (some b) → VarOk g f h (XOf f σ ρ) m (σ.α i) x b
  cs : CallSt g f.outer h
  kE : Kf (fsOf f.outer) f.hE h
  inj : ∀ i j, Own ρ i → Own ρ j → σ.α i = σ.α j → i = j
  fresh : ∀ i, Own ρ i → f.hE.get? (σ.α i) = none ∧ σ.α i ≠ f.L ∧ g.H0.get? (σ.α i) = none
  len : ρ.length ≤ f.nm.length
  Yfs : ∀ b ∈ fsOf f.outer, σ.Y b
  Yex : ∀ b, σ.Y b → ∃ o, h.get? b = some o
  offY : ∀ i, Own ρ i → ¬ σ.Y (σ.α i)
  Y0 : ∀ b, σ.Y b → g.H0.get? b = none
theorem St.fsX {g : GI} {f : Fm} {σ : Sp} {ρ : En} {h : Heap} (S : St g f σ ρ h) : ∀ b, b ∈ f.fs → XOf f σ ρ b := fun b hb => by
  rw [Fm.fs_eq] at hb
  rcases List.mem_cons.mp hb with rfl | hb
  · exact .inr (.inl rfl)
  · exact .inl (S.Yfs b hb)
theorem Kf.up {fs : List Addr} {h h' : Heap} (x : Kf fs h h') : h.UpToSlots h' := fun b o e _ => (x b o e).2
theorem Kf.ns {fs : List Addr} {h h' : Heap} {a : Addr} {m : Str → Option Value} (x : Kf fs h h') (n : h.Ns a m) : h'.Ns a m := x.up.ns n
theorem funFrames_kf {fs : List Addr} {h h' base : Heap} {l : List Env} (x : Kf fs h h') (hl : h.FunFrames base l) : h'.FunFrames base l :=
  Heap.FunFrames.of_keeps (fun b o e _ => let ⟨_, q⟩ := (x b o e).2; ⟨_, q, rfl⟩) hl
theorem CallSt.fs_none {g : GI} {l : List Env} {h : Heap} (c : CallSt g l h) {b : Addr} (hb : b ∈ fsOf l) : g.H0.get? b = none := (c.ff.mem hb).1
theorem CallSt.mono {g : GI} {l : List Env} {h h' : Heap} {fs : List Addr} (c : CallSt g l h) (hfs : ∀ b ∈ fs, g.H0.get? b = none) (k : Kf fs h h') : CallSt g l h' where
  keep := fun b o e => (k b o (c.keep b o e)).1 fun hb => by rw [hfs b hb] at e; cases e
  ff := funFrames_kf k c.ff
theorem none_of_ge {h : Heap} {a : Addr} (q : h.objs.size ≤ a) : h.get? a = none := Heap.get?_none_of_le q
theorem fs_none0 {g : GI} {f : Fm} {n : Nat} {h : Heap} (ok : FmOk g f n) (c : CallSt g f.outer h) : ∀ b ∈ f.fs, g.H0.get? b = none := fun b hb => by
  rw [Fm.fs_eq] at hb
  rcases List.mem_cons.mp hb with rfl | hb
  · exact ok.newL0
  · exact c.fs_none hb
theorem VarOk.mono {g : GI} {f : Fm} {h h' : Heap} {X : Addr → Prop} {m : Str → Option Value} {a : Addr} {x : Str} {b : B} (v : VarOk g f h X m a x b) (k : KX X h h')
    (ka : b.owns = true → ∀ o, h.get? a = some o → h'.get? a = some o) : VarOk g f h' X m a x b := by
  have hX : ∀ b, X b → X b ∨ h.get? b = none := fun b m => .inl m
  cases b with
  | sh d => obtain ⟨v, e, r⟩ := v; exact ⟨v, e, r.mono k hX⟩
  | li ds => obtain ⟨e, vs, n, e1, e4, e5⟩ := v; exact ⟨e, vs, n, ka rfl _ e1, e4.mono k hX, e5⟩
  | ba bs => obtain ⟨e, e1, e2⟩ := v; exact ⟨e, e1, ka rfl _ e2⟩
  | bo ds => obtain ⟨a', vs, n, e, e0, e1, e4, e5⟩ := v; exact ⟨a', vs, n, e, e0, e1, e4.mono k hX, e5⟩
  | ce d =>
    obtain ⟨e, c⟩ := v
    cases d with
    | none => obtain ⟨o, e1, e2⟩ := c; exact ⟨e, o, ka rfl _ e1, e2⟩
    | some d => obtain ⟨v, ⟨o, e1, e2⟩, r⟩ := c; exact ⟨e, v, ⟨o, ka rfl _ e1, e2⟩, r.mono k hX⟩
  | bc d => obtain ⟨c, v, e, e0, e1, r⟩ := v; exact ⟨c, v, e, e0, e1, r.mono k hX⟩
  | me o => obtain ⟨e0, e, e1, e2, e3⟩ := v; exact ⟨e0, e, k _ _ e1 e2, e2, e3.mono k hX (ka rfl)⟩
theorem kE_step {f : Fm} {h h' : Heap} (ab : f.hE.get? f.L = none) (kE : Kf (fsOf f.outer) f.hE h) (k : Kf f.fs h h') : Kf (fsOf f.outer) f.hE h' := fun b o e => by
  obtain ⟨p, sl, q⟩ := kE b o e
  have hbL : b ≠ f.L := fun z => by rw [z, ab] at e; cases e
  refine ⟨fun nb => (k b o (p nb)).1 fun hb => ?_, ?_⟩
  · rw [Fm.fs_eq] at hb
    exact (List.mem_cons.mp hb).elim hbL nb
  · obtain ⟨_, sl', q'⟩ := k b _ q
    exact ⟨sl', q'⟩
theorem own_off {g : GI} {f : Fm} {n : Nat} (ok : FmOk g f n) {a : Addr} (h1 : f.hE.get? a = none) (h2 : a ≠ f.L) : a ∉ f.fs := fun hb => by
  rw [Fm.fs_eq] at hb
  rcases List.mem_cons.mp hb with q | q
  · exact h2 q
  · obtain ⟨o', e', _⟩ := (ok.csE.ff.mem q).2
    rw [h1] at e'; cases e'
theorem St.mono {g : GI} {f : Fm} {n : Nat} {σ : Sp} {ρ : En} {h h' : Heap} (ok : FmOk g f n) (S : St g f σ ρ h) (k : Kf f.fs h h') : St g f σ ρ h' := by
  have fsX := S.fsX
  obtain ⟨⟨m, hns, hv⟩, c, kE, nd, fr, len, Yfs, Yex, offY, Y0⟩ := S
  refine ⟨⟨m, k.ns hns, fun i x b hx hb => (hv i x b hx hb).mono (k.kx fsX) fun ho o e => (k _ o e).1 ?_⟩, c.mono (fs_none0 ok c) k, kE_step ok.newL kE k, nd, fr, len, Yfs, fun b hb => let ⟨o, e⟩ := Yex b hb; let ⟨_, q⟩ := (k b o e).2; ⟨_, q⟩, offY, Y0⟩
  have := fr i ⟨b, hb, ho⟩
  exact own_off ok this.1 this.2.1
theorem VarOk.there {g : GI} {f : Fm} {h : Heap} {X : Addr → Prop} {m : Str → Option Value} {a : Addr} {x : Str} {b : B} (v : VarOk g f h X m a x b) (ho : b.owns = true) : ∃ o, h.get? a = some o := by
  cases b with
  | sh d => cases ho
  | li ds => obtain ⟨e, vs, n, e1, _⟩ := v; exact ⟨_, e1⟩
  | ba bs => obtain ⟨e, e1, e2⟩ := v; exact ⟨_, e2⟩
  | bo ds => cases ho
  | ce d => obtain ⟨_, c⟩ := v; cases d with
    | none => obtain ⟨o, e1, _⟩ := c; exact ⟨_, e1⟩
    | some d => obtain ⟨_, ⟨o, e1, _⟩, _⟩ := c; exact ⟨_, e1⟩
  | bc d => cases ho
  | me o => obtain ⟨_, _, _, _, e3⟩ := v; exact e3.there
theorem St.ownEx {g : GI} {f : Fm} {σ : Sp} {ρ : En} {h : Heap} (S : St g f σ ρ h) {a : Addr} (ha : OwnA σ ρ a) : ∃ o, h.get? a = some o := by
  obtain ⟨j, ⟨b', hb', ho⟩, hj⟩ := ha
  obtain ⟨m', _, hv⟩ := S.ex
  have hl : j < f.nm.length := Nat.lt_of_lt_of_le (List.getElem?_eq_some_iff.mp hb').1 S.len
  rw [hj]
  exact (hv j _ b' (List.getElem?_eq_getElem hl) hb').there ho
theorem St.Xex {g : GI} {f : Fm} {σ : Sp} {ρ : En} {h : Heap} (S : St g f σ ρ h) {a : Addr} (ha : XOf f σ ρ a) : ∃ o, h.get? a = some o := by
  rcases ha with m | m | m
  · exact S.Yex a m
  · obtain ⟨_, ⟨oL, _, _, hL, _⟩, _⟩ := S.ex; rw [m]; exact ⟨_, hL⟩
  · exact S.ownEx m
theorem St.X0 {g : GI} {f : Fm} {n : Nat} {σ : Sp} {ρ : En} {h : Heap} (ok : FmOk g f n) (S : St g f σ ρ h) {a : Addr} (ha : XOf f σ ρ a) : g.H0.get? a = none := by
  rcases ha with m | m | ⟨i, hi, m⟩
  · exact S.Y0 a m
  · rw [m]; exact ok.newL0
  · rw [m]; exact (S.fresh i hi).2.2
theorem St.fresh_off {g : GI} {f : Fm} {σ : Sp} {ρ : En} {h : Heap} (S : St g f σ ρ h) {a : Addr} (ha : h.get? a = none) : ¬ XOf f σ ρ a := fun m => by
  obtain ⟨o, e⟩ := S.Xex m; rw [ha] at e; cases e
def Fly (f : Fm) (h h' : Heap) (e : Addr) (c : Value) : Prop := Kf f.fs h h' ∧ ∃ a0, Heap.FlyingW (hideAll h f.fs) f.stack e c a0 h'
inductive Res where
  | ok (d : V)
  | exc (c : Value)
theorem hide_mono {fs : List Addr} {h h' : Heap} (k : Kf fs h h') : (hideAll h fs).StaysIn (hideAll h' fs) := fun b o e => by
  have hb : b ∉ fs := fun m => by rw [hideAll_none _ m] at e; cases e
  exact hideAll_get _ ((k b o (of_hideAll _ e)).1 hb) hb
theorem Fly.trans {f : Fm} {h h₁ h' : Heap} {e : Addr} {c : Value} (k : Kf f.fs h h₁) (x : Fly f h₁ h' e c) : Fly f h h' e c :=
  ⟨k.trans x.1, let ⟨a0, q⟩ := x.2; ⟨a0, flyingW_base (hide_mono k) q⟩⟩
def Ev (g : GI) (f : Fm) (ρ : En) (e : Expr) (r : Res) : Prop :=
  ∀ σ (s : Shared) (Q : Value → Shared → Prop) (E : Value → Shared → Prop), St g f σ ρ s.heap →
    (∀ v d h' tk, r = .ok d → Kf f.fs s.heap h' → Rep g.C h' (XOf f σ ρ) d v → Q v { s with heap := h', toks := tk }) →
    (∀ c e' h' tk, r = .exc c → Fly f s.heap h' e' c → E (.ref e') { s with heap := h', toks := tk }) →
    wpAny (model g.prog g.w) f.A (eval e f.env) Q E s
inductive ResL where
  | ok (d : List V)
  | exc (c : Value)
def Evs (g : GI) (f : Fm) (ρ : En) (es : List Expr) (r : ResL) : Prop :=
  ∀ pos σ (s : Shared) (Q : List Value → Shared → Prop) (E : Value → Shared → Prop), St g f σ ρ s.heap →
    (∀ vs ds h' tk, r = .ok ds → Kf f.fs s.heap h' → RepL g.C h' (XOf f σ ρ) ds vs → Q vs { s with heap := h', toks := tk }) →
    (∀ c e' h' tk, r = .exc c → Fly f s.heap h' e' c → E (.ref e') { s with heap := h', toks := tk }) →
    wpAny (model g.prog g.w) f.A (spliced (backTo pos (starEach es f.env))) Q E s
def EvO (g : GI) (f : Fm) (ρ : En) (e : Expr) (b : B) : Prop :=
  ∀ σ (s : Shared) (Q : Value → Shared → Prop) (E : Value → Shared → Prop), St g f σ ρ s.heap →
    (∀ a h' tk, Kf f.fs s.heap h' → s.heap.get? a = none → VarOk g f h' (fun b => XOf f σ ρ b ∨ b = a) (fun _ => some (.ref a)) a "" b → Q (.ref a) { s with heap := h', toks := tk }) →
    wpAny (model g.prog g.w) f.A (eval e f.env) Q E s
inductive Out where
  | next (ρ : En)
  | brk (ρ : En)
  | cont (ρ : En)
  | ret (d : V)
  | exc (c : Value) (ρ : En)
def RetOk (g : GI) (f : Fm) (Y : Addr → Prop) (h' : Heap) (d : V) (v : Value) : Prop := CallSt g f.outer h' ∧ Kf (fsOf f.outer) f.hE h' ∧ Rep g.C h' Y d v
structure Trn (f : Fm) (σ : Sp) (ρ : En) (h : Heap) (σ' : Sp) (ρ' : En) (h' : Heap) : Prop where
  keep : ∀ b o, h.get? b = some o → b ∉ f.fs → ¬ OwnA σ ρ b → h'.get? b = some o
  frames : ∀ b o, h.get? b = some o → b ∈ f.fs → ∃ o', h'.get? b = some o'
  own : ∀ b, OwnA σ' ρ' b → OwnA σ ρ b ∨ h.get? b = none
  Y : σ'.Y = σ.Y
theorem Trn.refl (f : Fm) (σ : Sp) (ρ : En) (h : Heap) : Trn f σ ρ h σ ρ h := ⟨fun _ _ e _ _ => e, fun _ o e _ => ⟨o, e⟩, fun _ m => .inl m, rfl⟩
theorem Trn.trans {f : Fm} {σ σ' σ'' : Sp} {ρ ρ' ρ'' : En} {h h' h'' : Heap} (x : Trn f σ ρ h σ' ρ' h') (y : Trn f σ' ρ' h' σ'' ρ'' h'') : Trn f σ ρ h σ'' ρ'' h'' := by
  have off : ∀ b o, h.get? b = some o → ¬ OwnA σ ρ b → ¬ OwnA σ' ρ' b := fun b o e n m => (x.own b m).elim n fun q => by rw [e] at q; cases q
  refine ⟨fun b o e n n' => y.keep b o (x.keep b o e n n') n (off b o e n'), fun b o e m => let ⟨o', e'⟩ := x.frames b o e m; y.frames b o' e' m, fun b m => ?_, y.Y.trans x.Y⟩
  rcases y.own b m with m | m
  · exact x.own b m
  · by_cases hx : OwnA σ ρ b
    · exact .inl hx
    · right
      cases q : h.get? b with
      | none => rfl
      | some o =>
        by_cases hf : b ∈ f.fs
        · obtain ⟨o', e'⟩ := x.frames b o q hf; rw [m] at e'; cases e'
        · have := x.keep b o q hf hx; rw [m] at this; cases this
theorem Kf.trn {f : Fm} {σ : Sp} {ρ : En} {h h' : Heap} (k : Kf f.fs h h') : Trn f σ ρ h σ ρ h' := ⟨fun b o e n _ => (k b o e).1 n, fun b o e _ => let ⟨_, q⟩ := (k b o e).2; ⟨_, q⟩, fun _ m => .inl m, rfl⟩
theorem Trn.kx {g : GI} {f : Fm} {σ σ' : Sp} {ρ ρ' : En} {h h' : Heap} (t : Trn f σ ρ h σ' ρ' h') (S : St g f σ ρ h) : KX (XOf f σ ρ) h h' := fun b o e n => t.keep b o e (fun m => n (S.fsX b m)) fun m => n (.inr (.inr m))
def OutOk (g : GI) (f : Fm) (σ : Sp) (ρ : En) (h h' : Heap) (fl : Flow) : Out → Prop
  | .next ρ' => fl = .next ∧ ∃ σ', St g f σ' ρ' h' ∧ Trn f σ ρ h σ' ρ' h'
  | .brk ρ' => fl = .brk ∧ ∃ σ', St g f σ' ρ' h' ∧ Trn f σ ρ h σ' ρ' h'
  | .cont ρ' => fl = .cont ∧ ∃ σ', St g f σ' ρ' h' ∧ Trn f σ ρ h σ' ρ' h'
  | .ret d => ∃ v, fl = .ret v ∧ RetOk g f σ.Y h' d v
  | .exc _ _ => False
def ExcOk (g : GI) (f : Fm) (σ : Sp) (ρ : En) (h h' : Heap) (e : Addr) (c : Value) (ρ' : En) : Prop :=
  ∃ σ' h₁, St g f σ' ρ' h₁ ∧ Trn f σ ρ h σ' ρ' h₁ ∧ (Fly f h₁ h' e c ∨ ∃ args, Heap.MadeExcOf h₁ h' e c args)
def Ex (g : GI) (f : Fm) (ρ : En) (b : List Stmt) (O : Out → Prop) : Prop :=
  ∀ σ (s : Shared) (Q : Flow → Shared → Prop) (E : Value → Shared → Prop), St g f σ ρ s.heap →
    (∀ fl o h' tk, O o → OutOk g f σ ρ s.heap h' fl o → Q fl { s with heap := h', toks := tk }) →
    (∀ c ρ' e h' tk, O (.exc c ρ') → ExcOk g f σ ρ s.heap h' e c ρ' → E (.ref e) { s with heap := h', toks := tk }) →
    wpAny (model g.prog g.w) f.A (execs b f.env) Q E s
theorem OutOk.pre {g : GI} {f : Fm} {σ σ' : Sp} {ρ ρ' : En} {h h₁ h' : Heap} {fl : Flow} {o : Out} (t : Trn f σ ρ h σ' ρ' h₁) (x : OutOk g f σ' ρ' h₁ h' fl o) : OutOk g f σ ρ h h' fl o := by
  cases o with
  | next r => obtain ⟨a, σ'', S, q⟩ := x; exact ⟨a, σ'', S, t.trans q⟩
  | brk r => obtain ⟨a, σ'', S, q⟩ := x; exact ⟨a, σ'', S, t.trans q⟩
  | cont r => obtain ⟨a, σ'', S, q⟩ := x; exact ⟨a, σ'', S, t.trans q⟩
  | ret d => obtain ⟨v, e, q⟩ := x; exact ⟨v, e, by rw [← t.Y]; exact q⟩
  | exc _ _ => exact x
theorem ExcOk.pre {g : GI} {f : Fm} {σ σ' : Sp} {ρ ρ' : En} {h h₁ h' : Heap} {e : Addr} {c : Value} {ρ'' : En} (t : Trn f σ ρ h σ' ρ' h₁) (x : ExcOk g f σ' ρ' h₁ h' e c ρ'') : ExcOk g f σ ρ h h' e c ρ'' := by
  obtain ⟨σ'', h₂, S, q, r⟩ := x
  exact ⟨σ'', h₂, S, t.trans q, r⟩
theorem Ex.after {g : GI} {f : Fm} {σ σ' : Sp} {ρ ρ' : En} {b : List Stmt} {O : Out → Prop} {s : Shared} {h' : Heap} {tk : Nat} {Q : Flow → Shared → Prop} {E : Value → Shared → Prop} (x : Ex g f ρ' b O) (S : St g f σ' ρ' h') (t : Trn f σ ρ s.heap σ' ρ' h')
    (q : ∀ fl o h' tk, O o → OutOk g f σ ρ s.heap h' fl o → Q fl { s with heap := h', toks := tk })
    (ex : ∀ c ρ' e h' tk, O (.exc c ρ') → ExcOk g f σ ρ s.heap h' e c ρ' → E (.ref e) { s with heap := h', toks := tk }) :
    wpAny (model g.prog g.w) f.A (execs b f.env) Q E { s with heap := h', toks := tk } :=
  x σ' { s with heap := h', toks := tk } Q E S (fun fl o h'' tk' ho ok => q fl o h'' tk' ho (ok.pre t)) fun c ρ'' e h'' tk' ho ok => ex c ρ'' e h'' tk' ho (ok.pre t)
theorem Ex.mono {g : GI} {f : Fm} {ρ : En} {b : List Stmt} {O O' : Out → Prop} (x : Ex g f ρ b O) (h : ∀ o, O o → O' o) : Ex g f ρ b O' :=
  fun σ s Q E S q e => x σ s Q E S (fun fl o h' tk ho => q fl o h' tk (h _ ho)) fun c ρ' e' h' tk ho => e c ρ' e' h' tk (h _ ho)
def Fn (g : GI) (n : Nat) (fv : Value) (ds : List V) (r : Res) : Prop :=
  ∀ (A : Around) (l : List Env) (Y : Addr → Prop) (vs : List Value) (s : Shared) (R : Result → Shared → Prop), g.Ok → A.frames = some l → A.handled = none → Room A n →
    CallSt g l s.heap → (∀ b ∈ fsOf l, Y b) → (∀ b, Y b → ∃ o, s.heap.get? b = some o) → (∀ b, Y b → g.H0.get? b = none) → RepL g.C s.heap Y ds vs →
    (∀ v d h' tk, r = .ok d → Kf (fsOf l) s.heap h' → Rep g.C h' Y d v → R (.ok (.ret v)) { s with heap := h', toks := tk }) →
    (∀ c e a0 h' tk, r = .exc c → Kf (fsOf l) s.heap h' → Heap.FlyingW (hideAll s.heap (fsOf l)) l e c a0 h' → R (.error (.ref e)) { s with heap := h', toks := tk }) →
    codeAny (model g.prog g.w) A (.call fv ⟨vs, []⟩) R s
section
variable {g : GI} {f : Fm} {n : Nat} {ρ : En}
theorem Ev.name {x : Str} {pos : Pos} {d : V} (ok : FmOk g f n) (i : Nat) (hx : f.xs[i]? = some x) (hm : ρ[i]? = some (some (B.sh d))) :
    Ev g f ρ (.Name x pos) (.ok d) := fun σ s Q E S q _ => by
  obtain ⟨m, hns, hv⟩ := S.ex
  obtain ⟨v, e, r⟩ := hv i x _ (Fm.nmx hx) hm
  have hmem := List.mem_of_getElem? hx
  exact wpAny_Name (wpAny_loadName_local ok.kind (ok.loc x hmem) hns e (q v d s.heap s.toks rfl (Kf.refl _ _) r)) (ok.ndx hmem)
theorem Ev.cint {i : Int} {k : Nat} {pos : Pos} : Ev g f ρ (.Constant (.int i) k pos) (.ok (.int i)) := fun σ s Q E S q _ =>
  wpAny_Constant_int (q _ _ s.heap _ rfl (Kf.refl _ _) (by simp only [Rep]; exact ⟨_, rfl⟩))
theorem Ev.cbool {b : Bool} {k : Nat} {pos : Pos} : Ev g f ρ (.Constant (.bool b) k pos) (.ok (.bool b)) := fun σ s Q E S q _ =>
  wpAny_Constant_bool (q _ _ s.heap s.toks rfl (Kf.refl _ _) (by simp only [Rep]))
theorem Ev.cbytes {b : List UInt8} {k : Nat} {pos : Pos} (hb : b.length ≤ 1000) : Ev g f ρ (.Constant (.bytes b) k pos) (.ok (.bytes b)) := fun σ s Q E S q _ => by
  show wpAny _ _ (mkTextBytes b.toArray) _ _ _
  exact wpAny_mkTextBytes (q _ _ s.heap _ rfl (Kf.refl _ _) (by simp only [Rep]; exact ⟨⟨_, rfl⟩, Nat.le_trans hb (by unfold sizeLine; decide)⟩))
theorem Evs.nil : Evs g f ρ [] (.ok []) := fun pos σ s Q E S q _ =>
  spliced_nil (q [] [] s.heap s.toks rfl (Kf.refl _ _) (by simp only [RepL]))
theorem Evs.cons {e : Expr} {es : List Expr} {d : V} {ds : List V} (ok : FmOk g f n) (h1 : Ev g f ρ e (.ok d)) (h2 : Evs g f ρ es (.ok ds)) (hns : starEach (e :: es) f.env = (false, eval e f.env) :: starEach es f.env) :
    Evs g f ρ (e :: es) (.ok (d :: ds)) := fun pos σ s Q E S q ex => by
  rw [hns]
  refine spliced_cons (x := eval e f.env) (rest := backTo pos (starEach es f.env)) ?_
  refine h1 σ s _ _ S (fun v d' h₁ t₁ ed k₁ r₁ => ?_) fun c e' h' tk ec => nomatch ec
  injection ed with ed; subst ed
  refine h2 pos σ _ _ _ (S.mono ok k₁) (fun vs ds' h₂ t₂ eds k₂ r₂ => ?_) fun c e' h' tk ec => nomatch ec
  injection eds with eds; subst eds
  refine q (v :: vs) _ h₂ t₂ rfl (k₁.trans k₂) ?_
  simp only [RepL]
  exact ⟨v, vs, rfl, r₁.mono (k₂.kx S.fsX) fun b m => .inl m, r₂⟩
end
def RetO : Res → Out → Prop
  | .ok d, o => o = .ret d ∨ (d = .none ∧ ∃ ρ, o = .next ρ)
  | .exc c, o => ∃ ρ, o = .exc c ρ
theorem lookup_zip {names : List Str} {vs : List Value} (hn : names.Nodup) {i : Nat} {x : Str} {v : Value} (hx : names[i]? = some x) (hv : vs[i]? = some v) :
    (names.zip vs).reverse.lookup x = some v := by
  induction names generalizing vs i with
  | nil => simp at hx
  | cons y ys ih =>
    cases vs with
    | nil => simp at hv
    | cons u us =>
      simp only [List.zip_cons_cons, List.reverse_cons, List.lookup_append]
      cases i with
      | zero =>
        simp at hx hv; subst hx; subst hv
        have : (ys.zip us).reverse.lookup y = none := by
          rw [List.lookup_eq_none_iff]
          intro p hp
          have hp' := List.mem_reverse.mp hp
          have := (List.of_mem_zip (a := p.1) (b := p.2) hp').1
          simp only [bne_iff_ne, ne_eq, beq_eq_false_iff_ne]
          intro e
          exact (List.nodup_cons.mp hn).1 (e ▸ this)
        rw [this]; simp
      | succ i =>
        simp at hx hv
        rw [ih (List.nodup_cons.mp hn).2 hx hv]; rfl
theorem repl_entry {g : GI} {h h₁ : Heap} {Y Y' : Addr → Prop} {L : Addr} (hk : ∀ b o, h.get? b = some o → h₁.get? b = some o) (hL : h.get? L = none) (hY : ∀ b, Y' b → Y b ∨ b = L) {d : List V} {v : List Value}
    (r : RepL g.C h Y d v) : RepL g.C h₁ Y' d v := r.mono (fun b o e _ => hk b o e) fun b m => by
  rcases hY b m with m | m
  · exact .inl m
  · rw [m]; exact .inr hL
def shEn (k : Nat) (ds : List V) : En := ds.map (fun d => some (B.sh d)) ++ List.replicate k none
theorem shEn_own {k : Nat} {ds : List V} {i : Nat} : ¬ Own (shEn k ds) i := by
  rintro ⟨b, hb, ho⟩
  unfold shEn at hb
  have := List.mem_of_getElem? hb
  rcases List.mem_append.mp this with m | m
  · obtain ⟨d, _, e⟩ := List.mem_map.mp m
    injection e with e; subst e; cases ho
  · have := (List.mem_replicate.mp m).2; cases this
theorem shEn_get {k : Nat} {ds : List V} {i : Nat} {b : B} (h : (shEn k ds)[i]? = some (some b)) : ∃ d, ds[i]? = some d ∧ b = .sh d := by
  unfold shEn at h
  rcases Nat.lt_or_ge i ds.length with hi | hi
  · rw [List.getElem?_append_left (by simpa using hi)] at h
    simp only [List.getElem?_map] at h
    cases q : ds[i]? with
    | none => rw [q] at h; cases h
    | some d => rw [q] at h; simp at h; exact ⟨d, rfl, h.symm⟩
  · rw [List.getElem?_append_right (by simpa using hi)] at h
    have := List.mem_of_getElem? h
    have := (List.mem_replicate.mp this).2; cases this
theorem leave_exc {g : GI} {f : Fm} {n : Nat} (ok : FmOk g f n) (hst : f.stack = f.env :: f.outer) (hfr : f.env.frame = some f.L) {σ₀ : Sp} {ρ₀ ρ : En} {h₀ : Heap} {e : Addr} {c : Value} {s' : Shared} (x : ExcOk g f σ₀ ρ₀ h₀ s'.heap e c ρ) {Q : Unit → Shared → Prop} {E : Value → Shared → Prop}
    (hQ : ∀ h' a0, Kf (fsOf f.outer) f.hE h' → Heap.FlyingW (hideAll f.hE (fsOf f.outer)) f.outer e c a0 h' → Q () { s' with heap := h' }) :
    wpAny (model g.prog g.w) f.A (leaving f.env (.ref e)) Q E s' := by
  obtain ⟨σ, h₁, S, _, hx⟩ := x
  have offL : ∀ b o, f.hE.get? b = some o → b ∉ fsOf f.outer → b ∉ f.fs := fun b o e nb m => by
    rw [Fm.fs_eq] at m
    rcases List.mem_cons.mp m with q | q
    · rw [q, ok.newL] at e; cases e
    · exact nb q
  have base : (hideAll f.hE (fsOf f.outer)).StaysIn (hideAll h₁ f.fs) := fun b o e => by
    have nb : b ∉ fsOf f.outer := fun m => by rw [hideAll_none _ m] at e; cases e
    have e' := of_hideAll _ e
    exact hideAll_get _ ((S.kE b o e').1 nb) (offL b o e' nb)
  have fin : ∀ h' a0, h₁.UpToSlots h' → Heap.FlyingW (hideAll h₁ f.fs) f.outer e c a0 h' → Q () { s' with heap := h' } := fun h' a0 up fl => by
    refine hQ h' a0 (fun b o e => ?_) (flyingW_base base fl)
    obtain ⟨p, sl, q⟩ := S.kE b o e
    have xx : b ∉ fsOf f.outer → h'.get? b = some o := fun nb => fl.1 b o (hideAll_get _ (p nb) (offL b o e nb))
    refine ⟨xx, ?_⟩
    by_cases hb : b ∈ fsOf f.outer
    · obtain ⟨o', e', nf⟩ := (ok.csE.ff.mem hb).2
      rw [e] at e'; cases e'
      obtain ⟨sl', q'⟩ := up b _ q nf
      exact ⟨sl', q'⟩
    · exact ⟨o.slots, xx hb⟩
  have hff : h₁.FunFrames g.H0 f.stack := by
    obtain ⟨m, ⟨oL, es, ep, hL, hd, _⟩, _⟩ := S.ex
    exact ok.stk h₁ ⟨oL, hL, fun vs q => by rw [hd] at q; cases q⟩ S.cs.ff
  have fr' : f.A.frames = some (f.env :: f.outer) := hst ▸ ok.fr
  rcases hx with ⟨k, a0, fl⟩ | ⟨args, mk⟩
  · rw [hst] at fl
    exact wpAny_leaves_onW (env := f.env) (outer := f.outer) (L := f.L) fr' hfr fl fun h' x1 x2 => fin h' a0 (k.up.trans x2) x1
  · have hin : ∀ env ∈ f.stack, ∀ b, env.frame = some b → b ∈ f.fs := fun env he b hb => ok.sub b (List.mem_filterMap.mpr ⟨env, he, hb⟩)
    have hff' := funFrames_hide hff hin
    rw [hst] at hff'
    exact wpAny_leaves_madeW (env := f.env) (outer := f.outer) (L := f.L) fr' hfr (fun b o q => of_hideAll _ q) hff' mk fun h' t x1 x2 x3 x4 =>
      fin h' _ ((Heap.UpToSlots.of_keeps mk.keeps).trans x4) x1
theorem Fn.introT {g : GI} {n : Nat} {fa : Addr} {ds dx : List V} {r : Res} {names loc : List Str} {xs : List Value} {name qual : Str} {params : Arguments} {body : List Stmt} {scope : Scope} {dV kV doc pm cdv ct oc : Value} {an od : Option Addr} {osl : Array (Option Value)}
    (ho : g.K.lookup fa = some ⟨oc, od, .func (fnOf name qual params body scope dV kV doc pm an cdv ct), osl⟩) (hcd : codeIn g.K cdv qual = true)
    (hbind : ∀ (vs : List Value) (s : Shared), vs.length = ds.length → g.K.In s.heap → BindsTo s (fnOf name qual params body scope dV kV doc pm an cdv ct) ⟨vs, []⟩ (names.zip (vs ++ xs)))
    (hxs : ∀ h X, RepL g.C h X dx xs)
    (hn : (names ++ loc).Nodup) (hlen : names.length = ds.length + dx.length) (hloc : ∀ y ∈ names ++ loc, scope.names.lookup y = some .local) (hdb : ∀ x ∈ names ++ loc, (x == ("__debug__" : Str)) = false)
    (hb : ∀ f : Fm, FmOk g f n → f.env.scope = scope → f.xs = names ++ loc → f.ys = [] → f.env.cells = [] → f.stack = f.env :: f.outer → f.env.frame = some f.L → Ex g f (shEn loc.length (ds ++ dx)) body (RetO r))
    (hco : scope.isCoroutine = false := by rfl) (hgen : scope.isGenerator = false := by rfl) (hk : scope.kind = .function := by rfl) (hcell : ∀ x ∈ scope.names, x.2 ≠ .cell := by decide) :
    Fn g (n + 1) (.ref fa) ds r := by
  intro A l Y vs s R ok hA hh room cs hY hYex hY0 hr q ex
  have X : g.K.In s.heap := ok.X.keeps cs.keep
  have hvl : vs.length = ds.length := RepL.length hr
  have hxl : xs.length = dx.length := RepL.length (hxs s.heap (fun _ => False))
  have hL : s.heap.get? s.heap.objs.size = none := none_of_ge (Nat.le_refl _)
  have hL0 : g.H0.get? s.heap.objs.size = none := by
    cases z : g.H0.get? s.heap.objs.size with
    | none => rfl
    | some o => have := cs.keep _ _ z; rw [hL] at this; cases this
  have hnn : names.Nodup := (List.nodup_append.mp hn).1
  refine codeAny_call_def (fd := fnOf name qual params body scope dV kV doc pm an cdv ct) (body := body) (binds := names.zip (vs ++ xs)) (by have := room.1; omega) (X _ _ ho) rfl
    (ok.T.nolimit.keeps cs.keep) (codeRec_of X hcd) rfl (hbind vs s hvl X) hcell (fun y hy => hloc _ (List.mem_append_left _ (List.of_mem_zip (a := y.1) (b := y.2) hy).1)) (fun h₁ hns hk₁ => ?_) hco hgen hk
  let f : Fm := ⟨envOf qual scope s.heap.objs.size fa cdv, A.deeper (envOf qual scope s.heap.objs.size fa cdv), envOf qual scope s.heap.objs.size fa cdv :: l, l, s.heap, names ++ loc, []⟩
  have fok : FmOk g f n := {
    G := ok
    fr := Around.frames_deeper hA
    hd := hh
    room := ⟨by show A.depth + 1 + 3 * n < recursionLimit; have := room.1; omega, by show A.units + 3 + 8 * n < cLine; have := room.2; omega⟩
    kind := hk
    eG := rfl
    eB := rfl
    stk := fun h ⟨o, e, hd⟩ ff => ⟨by show scope.kind ≠ .module; rw [hk]; decide, ⟨_, o, rfl, hL0, e, hd⟩, ff⟩
    sub := fun b hb => hb
    big := ok.big X
    newL := hL
    newL0 := hL0
    nodup := by show (names ++ loc ++ []).Nodup; rw [List.append_nil]; exact hn
    loc := hloc
    cel := fun x hx => nomatch hx
    ndb := by show ∀ x ∈ names ++ loc ++ [], _; rw [List.append_nil]; exact hdb
    csE := cs }
  have S : St g f ⟨Y, fun _ => 0⟩ (shEn loc.length (ds ++ dx)) h₁ := by
    refine ⟨⟨_, hns, ?_⟩, cs.mono (fs := []) (fun b hb => nomatch hb) (Kf.of_keeps hk₁), Kf.of_keeps hk₁, fun i j hi => (shEn_own hi).elim, fun i hi => (shEn_own hi).elim, by simp [shEn, f, hlen]; omega, hY, fun b hb => let ⟨o, e⟩ := hYex b hb; ⟨o, hk₁ b o e⟩, fun i hi => (shEn_own hi).elim, hY0⟩
    intro i x b hx hb
    obtain ⟨d, hd, rfl⟩ := shEn_get hb
    have hi : i < names.length := by
      rw [hlen, ← List.length_append]
      exact (List.getElem?_eq_some_iff.mp hd).1
    have hx' : names[i]? = some x := by
      rw [← hx]; show _ = (names ++ loc ++ [])[i]?
      rw [List.append_nil]; exact (List.getElem?_append_left hi).symm
    have hX : ∀ b, XOf f ⟨Y, fun _ => 0⟩ (shEn loc.length (ds ++ dx)) b → Y b ∨ b = s.heap.objs.size := fun b hb => by
      rcases hb with hb | hb | ⟨i, hi, _⟩
      · exact .inl hb
      · exact .inr hb
      · exact (shEn_own hi).elim
    have rr : RepL g.C h₁ (XOf f ⟨Y, fun _ => 0⟩ (shEn loc.length (ds ++ dx))) (ds ++ dx) (vs ++ xs) := (repl_entry hk₁ hL hX hr).append (hxs _ _)
    obtain ⟨v, ev, rv⟩ := rr.get hd
    exact ⟨v, lookup_zip hnn hx' ev, rv⟩
  refine hb f fok rfl rfl rfl rfl rfl rfl _ _ _ _ S (fun fl o h' tk ho hok => ?_) (fun c ρ' e h' tk ho hx => ?_)
  · cases r with
    | exc c => obtain ⟨ρ', rfl⟩ := ho; exact hok.elim
    | ok d =>
      rcases ho with rfl | ⟨rfl, ρ', rfl⟩
      · obtain ⟨v, rfl, c, k, rep⟩ := hok
        exact q v d h' tk rfl k rep
      · obtain ⟨rfl, σ, S', _⟩ := hok
        exact q .none .none h' tk rfl S'.kE (by simp only [Rep])
  · cases r with
    | ok d =>
      rcases ho with ho | ⟨_, _, ho⟩ <;> cases ho
    | exc c' =>
      obtain ⟨ρ'', ho⟩ := ho
      injection ho with e1 e2; subst e1 e2
      exact leave_exc (s' := { heap := h', gens := s.gens, drawn := s.drawn, toks := tk, os := s.os }) fok rfl rfl hx fun h'' a0 k fl => ex c e a0 h'' tk rfl k fl
theorem Fn.intro {g : GI} {n : Nat} {fa : Addr} {ds dx : List V} {r : Res} {names loc : List Str} {xs : List Value} {name qual : Str} {params : Arguments} {body : List Stmt} {scope : Scope} {dV kV doc pm cdv ct oc : Value} {an od : Option Addr} {osl : Array (Option Value)}
    (ho : g.K.lookup fa = some ⟨oc, od, .func (fnOf name qual params body scope dV kV doc pm an cdv ct), osl⟩) (hcd : codeIn g.K cdv qual = true)
    (hbind : ∀ (vs : List Value) (s : Shared), vs.length = ds.length → g.K.In s.heap → BindsTo s (fnOf name qual params body scope dV kV doc pm an cdv ct) ⟨vs, []⟩ (names.zip (vs ++ xs)))
    (hxs : ∀ h X, RepL g.C h X dx xs)
    (hn : (names ++ loc).Nodup) (hlen : names.length = ds.length + dx.length) (hloc : ∀ y ∈ names ++ loc, scope.names.lookup y = some .local) (hdb : ∀ x ∈ names ++ loc, (x == ("__debug__" : Str)) = false)
    (hb : ∀ f : Fm, FmOk g f n → f.env.scope = scope → f.xs = names ++ loc → f.ys = [] → f.env.cells = [] → Ex g f (shEn loc.length (ds ++ dx)) body (RetO r))
    (hco : scope.isCoroutine = false := by rfl) (hgen : scope.isGenerator = false := by rfl) (hk : scope.kind = .function := by rfl) (hcell : ∀ x ∈ scope.names, x.2 ≠ .cell := by decide) :
    Fn g (n + 1) (.ref fa) ds r :=
  Fn.introT ho hcd hbind hxs hn hlen hloc hdb (fun f a b c d e _ _ => hb f a b c d e) hco hgen hk hcell
def GV (g : GI) (x : Str) (v : Value) : Prop :=
  ∀ (f : Fm) (n : Nat) (pos : Pos) (s : Shared) (Q : Value → Shared → Prop) (E : Value → Shared → Prop), FmOk g f n → f.env.kindOf x = some .globalImplicit → CallSt g f.outer s.heap → Q v s →
    wpAny (model g.prog g.w) f.A (eval (.Name x pos) f.env) Q E s
theorem GV.glob {g : GI} {x : Str} {v : Value} (e : nsIn g.K mainGlobals x = some (some v)) (hd : (x == ("__debug__" : Str)) = false) : GV g x v := fun f n pos s Q E ok hx cs h =>
  Calls.Name_function_global ok.kind hx (Calls.loadGlobal_global (env := f.env) (ok.eG ▸ ok.G.T.g.keeps cs.keep) (mg_of ok.G.X ok.G.T.g e) h) hd
theorem GV.boot {g : GI} {x : Str} {v : Value} (e : nsIn g.K mainGlobals x = some none) (hv : bootBuiltins x = some v) (hn : x ≠ "__name__") (hd : (x == ("__debug__" : Str)) = false) : GV g x v := fun f n pos s Q E ok hx cs h => by
  have hk := ok.kind
  exact Calls.Name_function_global hk hx (Calls.loadGlobal_builtin (env := f.env) (ok.eG ▸ ok.G.T.g.keeps cs.keep) (mg_none_of ok.G.X ok.G.T.g e) (ok.eB ▸ ok.G.T.b.keeps cs.keep) ((ok.G.T.builtins x hn).trans hv) h) hd
def Kept (g : GI) (fv : Value) : Prop := (∀ a, fv ≠ .ref a) ∨ keepIn g.K fv = true
theorem kept_looks {g : GI} {M : Model} {fv : Value} (hk : Kept g fv) (h : Heap) (X : g.K.In h) : ∃ k, (k = Keeper.frame ∨ k = Keeper.machine ∨ k = Keeper.boundFrame) ∧ Looks M h (keeperOf fv) k := by
  rcases hk with hk | hk
  · refine ⟨.machine, .inr (.inl rfl), Looks.of_pure ?_⟩
    unfold keeperOf
    cases fv with
    | ref a => exact (hk a rfl).elim
    | _ => rfl
  · exact keeps_K hk h X
section
variable {g : GI} {f : Fm} {n m : Nat} {ρ : En}
theorem St.call {σ : Sp} {h : Heap} (ok : FmOk g f n) (S : St g f σ ρ h) : CallSt g f.stack h := by
  refine ⟨S.cs.keep, ?_⟩
  obtain ⟨m, ⟨oL, es, ep, hL, hd, _⟩, _⟩ := S.ex
  exact ok.stk h ⟨oL, hL, fun vs q => by rw [hd] at q; cases q⟩ S.cs.ff
theorem fly_of {h h' : Heap} {e : Addr} {a0 c : Value} (ok : FmOk g f n) (k : Kf (fsOf f.stack) h h') (fl : Heap.FlyingW (hideAll h (fsOf f.stack)) f.stack e c a0 h') : Fly f h h' e c := by
  refine ⟨k.mono ok.sub, a0, flyingW_base (fun b o eb => ?_) fl⟩
  have nb : b ∉ f.fs := fun m => by rw [hideAll_none _ m] at eb; cases eb
  exact hideAll_get _ (of_hideAll _ eb) fun m => nb (ok.sub b m)
theorem call_of {fv : Value} {σ : Sp} {ds : List V} {r : Res} {vs : List Value} {s : Shared} {Q : Value → Shared → Prop} {E : Value → Shared → Prop} (ok : FmOk g f n) (hm : m ≤ n) (S : St g f σ ρ s.heap) (hr : RepL g.C s.heap (XOf f σ ρ) ds vs)
    (hf : Fn g m fv ds r)
    (q : ∀ v d h' tk, r = .ok d → Kf f.fs s.heap h' → Rep g.C h' (XOf f σ ρ) d v → Q v { s with heap := h', toks := tk })
    (ex : ∀ c e' h' tk, r = .exc c → Fly f s.heap h' e' c → E (.ref e') { s with heap := h', toks := tk }) :
    wpAny (model g.prog g.w) f.A (call fv vs) Q E s := by
  refine wpAny_call ?_
  exact hf f.A f.stack (XOf f σ ρ) vs s _ ok.G ok.fr ok.hd (ok.room.mono hm) (S.call ok) (fun b hb => S.fsX b (ok.sub b hb)) (fun b hb => S.Xex hb) (fun b hb => S.X0 ok hb) hr (fun v d h' tk e k rep => q v d h' tk e (k.mono ok.sub) rep) fun c e a0 h' tk er k fl => ex c e h' tk er (fly_of ok k fl)
theorem call_evs {fv : Value} {dfirst : List V} {first : List Value} {e : Expr} {es : List Expr} {pos : Pos} {σ : Sp} {ds : List V} {r : Res} {s : Shared} {Q : Value → Shared → Prop} {E : Value → Shared → Prop}
    (ok : FmOk g f n) (hm : m ≤ n) (hk : Kept g fv) (S : St g f σ ρ s.heap) (hfirst : RepL g.C s.heap (XOf f σ ρ) dfirst first)
    (hh : starEach (e :: es) f.env = (false, eval e f.env) :: starEach es f.env) (hplain : (backTo pos (starEach es f.env)).any (·.1) = false) (ha : Evs g f ρ (e :: es) (.ok ds))
    (hf : Fn g m fv (dfirst ++ ds) r)
    (q : ∀ v d h' tk, r = .ok d → Kf f.fs s.heap h' → Rep g.C h' (XOf f σ ρ) d v → Q v { s with heap := h', toks := tk })
    (ex : ∀ c e' h' tk, r = .exc c → Fly f s.heap h' e' c → E (.ref e') { s with heap := h', toks := tk }) :
    wpAny (model g.prog g.w) f.A (callWith pos fv first (backTo pos (starEach (e :: es) f.env)) []) Q E s := by
  refine callWith_of (P := fun h => g.K.In h) (by rw [hh]; show ((false || (backTo pos (starEach es f.env)).any (·.1)) || false) = false; rw [hplain]; rfl) (kept_looks hk) ?_
  have hpos := ha pos
  rw [hh] at hpos ⊢
  refine evalArgs_plain (x := eval e f.env) (rest := backTo pos (starEach es f.env)) ?_
  refine hpos σ s _ _ S (fun vs ds' h' tk ed k rr => ?_) fun c e' h' tk ec => nomatch ec
  injection ed with ed; subst ed
  have S' := S.mono ok k
  refine ⟨ok.G.X.keeps S'.cs.keep, ?_⟩
  exact call_of (s := { s with heap := h', toks := tk }) ok hm S' (RepL.append (hfirst.mono (k.kx S.fsX) fun b m => .inl m) rr) hf (fun v d h'' tk' er k' rep => q v d h'' tk' er (k.trans k') rep)
    fun c e' h'' tk' er fl => ex c e' h'' tk' er (fl.trans k)
theorem call_evs0 {fv : Value} {dfirst : List V} {first : List Value} {pos : Pos} {σ : Sp} {r : Res} {s : Shared} {Q : Value → Shared → Prop} {E : Value → Shared → Prop}
    (ok : FmOk g f n) (hm : m ≤ n) (hk : Kept g fv) (S : St g f σ ρ s.heap) (hfirst : RepL g.C s.heap (XOf f σ ρ) dfirst first) (hf : Fn g m fv dfirst r)
    (q : ∀ v d h' tk, r = .ok d → Kf f.fs s.heap h' → Rep g.C h' (XOf f σ ρ) d v → Q v { s with heap := h', toks := tk })
    (ex : ∀ c e' h' tk, r = .exc c → Fly f s.heap h' e' c → E (.ref e') { s with heap := h', toks := tk }) :
    wpAny (model g.prog g.w) f.A (callWith pos fv first (backTo pos (starEach [] f.env)) []) Q E s := by
  refine callWith_of (P := fun h => g.K.In h) rfl (kept_looks hk) ?_
  refine evalArgs_nil3 ⟨ok.G.X.keeps S.cs.keep, ?_⟩
  have e : first ++ ([] : List Value) = first := List.append_nil _
  rw [e]
  exact call_of ok hm S hfirst hf q ex
theorem Ev.call {x : Str} {np pos : Pos} {fv : Value} {e : Expr} {es : List Expr} {ds : List V} {r : Res} (ok : FmOk g f n) (hx : f.env.kindOf x = some .globalImplicit) (gv : GV g x fv) (hk : Kept g fv) (hm : m ≤ n)
    (ha : Evs g f ρ (e :: es) (.ok ds)) (hf : Fn g m fv ds r)
    (hh : starEach (e :: es) f.env = (false, eval e f.env) :: starEach es f.env := by rfl) (hplain : (backTo pos (starEach es f.env)).any (·.1) = false := by rfl) :
    Ev g f ρ (.Call (.Name x np) (e :: es) [] pos) r := fun σ s Q E S q ex => by
  refine wpAny_Call_ofName (gv f n np s _ _ ok hx S.cs ?_)
  exact call_evs (dfirst := []) (first := []) ok hm hk S (by simp only [RepL]) hh hplain ha hf q ex
theorem meth_eq {o : Expr} {name : Str} {apos pos : Pos} {args : List Expr} (hb : attributeBase o name f.env (eval o f.env) = eval o f.env) (hfew : methodCallForm (args.length + 0) (backTo pos (starEach args f.env)) [] = true)
    (hline : (apos.endLine == pos.line) = true) : eval (.Call (.Attribute o name apos) args [] pos) f.env = (do
      let ov ← eval o f.env
      standAt apos.atName
      let (fn, first) ← holding [ov] (getMethod ov name (do return (← importBound o f.env).getD true))
      callWith pos fn first (backTo pos (starEach args f.env)) []) := by
  have e : eval (.Call (.Attribute o name apos) args [] pos) f.env = (do
      let ov ← attributeBase o name f.env (eval o f.env)
      standAt apos.atName
      methodCall o name apos pos f.env ov (args.length + 0) (backTo pos (starEach args f.env)) []) := rfl
  rw [e, hb]
  unfold methodCall calleeOf methodCallPos
  rw [hfew, hline]
  rfl
theorem name_inst {h : Heap} {X : Addr → Prop} {ls : List (List UInt8)} {v : Value} (r : Rep g.C h X (.name ls) v) :
    ∃ x dx t hs tk nn, v = .ref x ∧ PySem.W.InstAt h x (instObj g.C dx) g.C (some (dictOf [⟨hs, .str "labels" tk, .ref t⟩] nn)) ∧ (Rep g.C h X (.tup (ls.map .bytes)) (.ref t)) := by
  simp only [Rep] at r
  obtain ⟨x, dx, hs, tk, t, vs, n, m, e1, e2, e5, e7, e10, e11, tks, e12, e13⟩ := r
  refine ⟨x, dx, t, hs, tk, m, e1, ⟨e2.1, rfl, rfl, e5.1⟩, ?_⟩
  simp only [Rep]
  refine ⟨t, vs, n, rfl, e7, ?_, e10⟩
  subst e13
  clear e1 e2 e5 e7 e10
  induction ls generalizing tks with
  | nil => simp [RepL]
  | cons b bs ih =>
    cases tks with
    | nil => simp at e12
    | cons u us =>
      simp only [List.map_cons, List.zip_cons_cons, RepL]
      refine ⟨_, _, rfl, ?_, ih (fun b hb => e11 b (.tail _ hb)) us (by simpa using e12)⟩
      simp only [Rep]
      exact ⟨⟨_, rfl⟩, e11 b (.head _)⟩
structure MethK (g : GI) (name : Str) (fa : Addr) : Prop where
  ga : findIn g.K (.ref g.C) "__getattribute__" = some (some (.builtin "object.__getattribute__"))
  gx : findIn g.K (.ref g.C) "__getattr__" = some none
  hf : findIn g.K (.ref g.C) name = some (some (.ref fa))
  ht : typeIn g.K (.ref fa) = some (.type "function")
  kp : keepIn g.K (.ref fa) = true
  nl : ("labels" : Str) ≠ name
theorem Ev.meth {o e : Expr} {es : List Expr} {name : Str} {apos pos : Pos} {fa : Addr} {ls : List (List UInt8)} {ds : List V} {r : Res} (ok : FmOk g f n) (hM : MethK g name fa) (hm : m ≤ n)
    (ho : Ev g f ρ o (.ok (.name ls))) (ha : Evs g f ρ (e :: es) (.ok ds)) (hf : Fn g m (.ref fa) (.name ls :: ds) r)
    (hb : attributeBase o name f.env (eval o f.env) = eval o f.env := by rfl) (hfew : methodCallForm ((e :: es).length + 0) (backTo pos (starEach (e :: es) f.env)) [] = true := by rfl) (hline : (apos.endLine == pos.line) = true := by rfl)
    (hh : starEach (e :: es) f.env = (false, eval e f.env) :: starEach es f.env := by rfl) (hplain : (backTo pos (starEach es f.env)).any (·.1) = false := by rfl) :
    Ev g f ρ (.Call (.Attribute o name apos) (e :: es) [] pos) r := fun σ s Q E S q ex => by
  rw [meth_eq hb hfew hline]
  refine wpAny_bind (ho σ s _ _ S (fun v d h₁ t₁ ed k₁ r₁ => ?_) fun c e' h' tk ec => nomatch ec)
  injection ed with ed; subst ed
  have S₁ := S.mono ok k₁
  obtain ⟨x, dx, t, hs, tk, nn, rfl, I, _⟩ := name_inst r₁
  have X : g.K.In h₁ := ok.G.X.keeps S₁.cs.keep
  refine wpAny_bind (wpAny_standAt (wpAny_bind (wpAny_holding (method_fn (s := { s with heap := h₁, toks := t₁ }) X I hM.ga hM.gx hM.hf hM.ht ?_ ?_))))
  · unfold shadowIn lookIn
    have : ((Value.str "labels" tk).isStr name) = false := by simpa [Value.isStr] using hM.nl
    simp [this, DictEntry.refKey]
  · exact call_evs (s := { s with heap := h₁, toks := t₁ }) (dfirst := [.name ls]) (first := [.ref x]) ok hm (.inr hM.kp) S₁ (by simp only [RepL]; exact ⟨_, _, rfl, r₁, rfl⟩) hh hplain ha hf
      (fun v d h' tk e k rep => q v d h' tk e (k₁.trans k) rep) fun c e' h' tk e fl => ex c e' h' tk e (fl.trans k₁)
theorem Ev.meth0 {o : Expr} {name : Str} {apos pos : Pos} {fa : Addr} {ls : List (List UInt8)} {r : Res} (ok : FmOk g f n) (hM : MethK g name fa) (hm : m ≤ n)
    (ho : Ev g f ρ o (.ok (.name ls))) (hf : Fn g m (.ref fa) [.name ls] r)
    (hb : attributeBase o name f.env (eval o f.env) = eval o f.env := by rfl) (hline : (apos.endLine == pos.line) = true := by rfl) :
    Ev g f ρ (.Call (.Attribute o name apos) [] [] pos) r := fun σ s Q E S q ex => by
  rw [meth_eq hb rfl hline]
  refine wpAny_bind (ho σ s _ _ S (fun v d h₁ t₁ ed k₁ r₁ => ?_) fun c e' h' tk ec => nomatch ec)
  injection ed with ed; subst ed
  have S₁ := S.mono ok k₁
  obtain ⟨x, dx, t, hs, tk, nn, rfl, I, _⟩ := name_inst r₁
  have X : g.K.In h₁ := ok.G.X.keeps S₁.cs.keep
  refine wpAny_bind (wpAny_standAt (wpAny_bind (wpAny_holding (method_fn (s := { s with heap := h₁, toks := t₁ }) X I hM.ga hM.gx hM.hf hM.ht ?_ ?_))))
  · unfold shadowIn lookIn
    have : ((Value.str "labels" tk).isStr name) = false := by simpa [Value.isStr] using hM.nl
    simp [this, DictEntry.refKey]
  · exact call_evs0 (s := { s with heap := h₁, toks := t₁ }) (dfirst := [.name ls]) (first := [.ref x]) ok hm (.inr hM.kp) S₁ (by simp only [RepL]; exact ⟨_, _, rfl, r₁, rfl⟩) hf
      (fun v d h' tk e k rep => q v d h' tk e (k₁.trans k) rep) fun c e' h' tk e fl => ex c e' h' tk e (fl.trans k₁)
structure LabK (g : GI) : Prop where
  ga : findIn g.K (.ref g.C) "__getattribute__" = some (some (.builtin "object.__getattribute__"))
  hd : hasDictIn g.K g.C = true
  ha : findIn g.K (.ref g.C) "labels" = some none
theorem Ev.labels {o : Expr} {pos : Pos} {ls : List (List UInt8)} (ok : FmOk g f n) (hK : LabK g) (ho : Ev g f ρ o (.ok (.name ls)))
    (he : eval (.Attribute o "labels" pos) f.env = (do
      let o' ← eval o f.env
      standAt pos.atName
      let r ← holding [o'] (getAttr o' "labels" true)
      letTemporaryGo o o' r
      pure r) := by rfl) : Ev g f ρ (.Attribute o "labels" pos) (.ok (.tup (ls.map .bytes))) := fun σ s Q E S q ex => by
  refine PyProof.Rows.Attribute_any_ (ho σ s _ _ S (fun v d h₁ t₁ ed k₁ r₁ => ?_) fun c e' h' tk ec => nomatch ec) he
  injection ed with ed; subst ed
  have S₁ := S.mono ok k₁
  obtain ⟨x, dx, t, hs, tk, nn, rfl, I, rt⟩ := name_inst r₁
  have X : g.K.In h₁ := ok.G.X.keeps S₁.cs.keep
  refine get_value (s := { s with heap := h₁, toks := t₁ }) X I hK.ga (findObj_own (v := .ref t) (attr := none) hK.hd hK.ha rfl ?_) rfl ?_
  · unfold lookIn
    simp [Value.isStr]
  · exact q _ _ h₁ _ rfl k₁ rt
end
section
variable {g : GI} {f : Fm} {n : Nat} {ρ : En}
theorem nodup_ne {xs : List Str} (hn : xs.Nodup) {i j : Nat} {x y : Str} (hi : xs[i]? = some x) (hj : xs[j]? = some y) (h : i ≠ j) : x ≠ y := by
  intro e
  subst e
  obtain ⟨h1, e1⟩ := List.getElem?_eq_some_iff.mp hi
  obtain ⟨h2, e2⟩ := List.getElem?_eq_some_iff.mp hj
  exact h ((List.getElem_inj hn).mp (e1.trans e2.symm))
theorem set_get {ρ : En} {i j : Nat} {b : B} {c : Option B} (h : (ρ.set i c)[j]? = some (some b)) : (j = i ∧ c = some b) ∨ (j ≠ i ∧ ρ[j]? = some (some b)) := by
  rw [List.getElem?_set] at h
  split at h
  · rename_i e
    split at h
    · exact .inl ⟨e.symm, Option.some.inj h⟩
    · cases h
  · rename_i e; exact .inr ⟨fun q => e q.symm, h⟩
theorem kE_same {f : Fm} {h h' : Heap} (nl : f.hE.get? f.L = none) (kE : Kf (fsOf f.outer) f.hE h) (hs : Heap.SameBut f.L h h') : Kf (fsOf f.outer) f.hE h' := fun b o e => by
  have hb : b ≠ f.L := fun z => by rw [z, nl] at e; cases e
  rw [hs.2 b hb]
  exact kE b o e
theorem cs_same {g : GI} {l : List Env} {L : Addr} {h h' : Heap} (n0 : g.H0.get? L = none) (hl : ∀ b ∈ fsOf l, b ≠ L) (c : CallSt g l h) (hs : Heap.SameBut L h h') : CallSt g l h' := by
  refine ⟨fun b o e => (hs.2 b fun z => by rw [z, n0] at e; cases e).trans (c.keep b o e), ?_⟩
  have hf := c.ff
  have k : ∀ b ∈ fsOf l, h'.get? b = h.get? b := fun b hb => hs.2 b (hl b hb)
  clear c
  unfold fsOf at k
  induction l with
  | nil => trivial
  | cons env r ih =>
    obtain ⟨a1, ⟨L', o, q1, q2, q3, q4⟩, a3⟩ := hf
    have sub : ∀ b ∈ r.filterMap (·.frame), b ∈ (env :: r).filterMap (·.frame) := fun b hb => by
      rw [List.filterMap_cons, q1]; exact .tail _ hb
    refine ⟨a1, ⟨L', o, q1, q2, ?_, q4⟩, ih (fun b hb => hl b (by unfold fsOf; exact sub b hb)) a3 fun b hb => k b (sub b hb)⟩
    rw [k L' (by rw [List.filterMap_cons, q1]; exact .head _)]
    exact q3
theorem outer_ne {g : GI} {f : Fm} {n : Nat} (ok : FmOk g f n) : ∀ b ∈ fsOf f.outer, b ≠ f.L := fun b hb z => by
  obtain ⟨o, e, _⟩ := (ok.csE.ff.mem hb).2
  rw [z, ok.newL] at e; cases e
theorem VarOk.step {h h' : Heap} {X X' : Addr → Prop} {m m' : Str → Option Value} {a : Addr} {x : Str} {b : B} (v : VarOk g f h X m a x b) (k : KX X h h') (hX : ∀ b, X' b → X b ∨ h.get? b = none) (hm : m' x = m x)
    (ka : b.owns = true → ∀ o, h.get? a = some o → h'.get? a = some o) : VarOk g f h' X' m' a x b := by
  cases b with
  | sh d => obtain ⟨v, e, r⟩ := v; exact ⟨v, hm.trans e, r.mono k hX⟩
  | li ds => obtain ⟨e, vs, n, e1, e4, e5⟩ := v; exact ⟨hm.trans e, vs, n, ka rfl _ e1, e4.mono k hX, e5⟩
  | ba bs => obtain ⟨e, e1, e2⟩ := v; exact ⟨hm.trans e, e1, ka rfl _ e2⟩
  | bo ds => obtain ⟨a', vs, n, e, e0, e1, e4, e5⟩ := v; exact ⟨a', vs, n, hm.trans e, e0, e1, e4.mono k hX, e5⟩
  | ce d =>
    obtain ⟨e, c⟩ := v
    cases d with
    | none => obtain ⟨o, e1, e2⟩ := c; exact ⟨e, o, ka rfl _ e1, e2⟩
    | some d => obtain ⟨v, ⟨o, e1, e2⟩, r⟩ := c; exact ⟨e, v, ⟨o, ka rfl _ e1, e2⟩, r.mono k hX⟩
  | bc d => obtain ⟨c, v, e, e0, e1, r⟩ := v; exact ⟨c, v, e, e0, e1, r.mono k hX⟩
  | me o => obtain ⟨e0, e, e1, e2, e3⟩ := v; exact ⟨e0, hm.trans e, k _ _ e1 e2, fun q => (hX _ q).elim e2 fun z => (by rw [e1] at z; cases z), e3.mono k hX (ka rfl)⟩
theorem store_any {x : Str} {i : Nat} {v : Value} {b : B} {σ σ' : Sp} {h0 : Heap} {s : Shared} {Q : Unit → Shared → Prop} {E : Value → Shared → Prop} (ok : FmOk g f n) (S : St g f σ ρ h0) (k : Kf f.fs h0 s.heap) (hx : f.xs[i]? = some x)
    (hα : ∀ j, j ≠ i → σ'.α j = σ.α j) (hY : σ'.Y = σ.Y)
    (hown : b.owns = true → (f.hE.get? (σ'.α i) = none ∧ σ'.α i ≠ f.L ∧ g.H0.get? (σ'.α i) = none) ∧ h0.get? (σ'.α i) = none)
    (hv : ∀ h' m, (∀ b o, b ≠ f.L → s.heap.get? b = some o → h'.get? b = some o) → m x = some v → VarOk g f h' (XOf f σ' (ρ.set i (some b))) m (σ'.α i) x b)
    (h : ∀ h', St g f σ' (ρ.set i (some b)) h' → Trn f σ ρ h0 σ' (ρ.set i (some b)) h' → Q () { s with heap := h', toks := s.toks + 1 }) : wpAny (model g.prog g.w) f.A (storeName f.env x v) Q E s := by
  have S₁ := S.mono ok k
  obtain ⟨m, hns, hvar⟩ := S.ex
  have hx' := List.mem_of_getElem? hx
  have hx := Fm.nmx hx
  have ownSet : ∀ {j}, Own (ρ.set i (some b)) j → (j = i ∧ b.owns = true) ∨ (j ≠ i ∧ Own ρ j) := fun {j} hj => by
    obtain ⟨b', hb, ho⟩ := hj
    rcases set_get hb with ⟨e, e'⟩ | ⟨e, e'⟩
    · injection e' with e'; subst e'; exact .inl ⟨e, ho⟩
    · exact .inr ⟨e, b', e', ho⟩
  have ownThere : ∀ {j}, Own ρ j → ∃ o, h0.get? (σ.α j) = some o := fun {j} hj => by
    obtain ⟨b', hb, ho⟩ := hj
    have hl : j < f.nm.length := Nat.lt_of_lt_of_le (List.getElem?_eq_some_iff.mp hb).1 S.len
    exact (hvar j _ b' (List.getElem?_eq_getElem hl) hb).there ho
  refine wpAny_storeName_local (ok.loc x hx') (k.ns hns) (fun h' hns' hs => h h' ?_ ?_) (by rw [ok.kind]; rfl)
  rotate_left
  · have hs' : Heap.SameBut f.L s.heap h' := hs
    refine ⟨fun c o hc hf _ => (hs'.2 c fun z => hf (by rw [z, Fm.fs_eq]; exact .head _)).trans ((k c o hc).1 hf), fun c o hc hf => ?_, fun c hc => ?_, hY⟩
    · by_cases z : c = f.L
      · subst z; obtain ⟨o', _, _, e', _⟩ := hns'; exact ⟨o', e'⟩
      · obtain ⟨_, q⟩ := (k c o hc).2; exact ⟨_, (hs'.2 c z).trans q⟩
    · obtain ⟨l, hl, hc⟩ := hc
      rcases ownSet hl with ⟨rfl, ho⟩ | ⟨hne, ho⟩
      · right; rw [hc]; exact (hown ho).2
      · left; exact ⟨l, ho, by rw [hc, hα l hne]⟩
  have hs' : Heap.SameBut f.L s.heap h' := hs
  refine ⟨⟨_, hns', fun j y b' hy hb => ?_⟩, cs_same ok.newL0 (outer_ne ok) S₁.cs hs', kE_same ok.newL S₁.kE hs', ?_, ?_, by rw [List.length_set]; exact S.len, by rw [hY]; exact S.Yfs, fun c hc => ?_, fun j hj m => ?_, by rw [hY]; exact S.Y0⟩
  rotate_right
  · rw [hY] at m
    rcases ownSet hj with ⟨rfl, ho⟩ | ⟨hne, ho⟩
    · obtain ⟨o, e⟩ := S.Yex _ m; rw [(hown ho).2] at e; cases e
    · rw [hα j hne] at m; exact S.offY j ho m
  rotate_right
  · rw [hY] at hc
    obtain ⟨o, e⟩ := S₁.Yex c hc
    by_cases z : c = f.L
    · subst z; obtain ⟨o', _, _, e', _⟩ := hns'; exact ⟨o', e'⟩
    · exact ⟨o, (hs'.2 c z).trans e⟩
  · rcases set_get hb with ⟨e, e'⟩ | ⟨e, e'⟩
    · subst e
      injection e' with e'; subst e'
      rw [hx] at hy; injection hy with hy; subst hy
      exact hv h' _ (fun c o hc ho => (hs'.2 c hc).trans ho) (by simp)
    · rw [hα j e]
      refine (hvar j y b' hy e').step (fun c o hc hX => ?_) (fun c hc => ?_) (by simp [nodup_ne ok.nodup hy hx e]) fun ho o hc => ?_
      · have h1 := (k c o hc).1 fun m => hX (S.fsX c m)
        exact (hs'.2 c fun z => hX (.inr (.inl z))).trans h1
      · rcases hc with hc | hc | ⟨l, hl, hc⟩
        · exact .inl (.inl (hY ▸ hc))
        · exact .inl (.inr (.inl hc))
        · rcases ownSet hl with ⟨rfl, ho⟩ | ⟨hne, ho⟩
          · right; rw [hc]; exact (hown ho).2
          · left; right; right; exact ⟨l, ho, by rw [hc, hα l hne]⟩
      · have fr := S.fresh j ⟨b', e', ho⟩
        have h1 := (k _ o hc).1 (own_off ok fr.1 fr.2.1)
        exact (hs'.2 _ fr.2.1).trans h1
  · intro j l hj hl e
    rcases ownSet hj with ⟨rfl, ho⟩ | ⟨hne, ho⟩
    · rcases ownSet hl with ⟨rfl, ho'⟩ | ⟨hne', ho'⟩
      · rfl
      · obtain ⟨o, q⟩ := ownThere ho'
        rw [hα l hne'] at e
        rw [← e, (hown ho).2] at q; cases q
    · rcases ownSet hl with ⟨rfl, ho'⟩ | ⟨hne', ho'⟩
      · obtain ⟨o, q⟩ := ownThere ho
        rw [hα j hne] at e
        rw [e, (hown ho').2] at q; cases q
      · rw [hα j hne, hα l hne'] at e
        exact S.inj j l ho ho' e
  · intro j hj
    rcases ownSet hj with ⟨rfl, ho⟩ | ⟨hne, ho⟩
    · exact (hown ho).1
    · rw [hα j hne]; exact S.fresh j ho
theorem store_sh {x : Str} {i : Nat} {v : Value} {d : V} {σ : Sp} {s : Shared} {Q : Unit → Shared → Prop} {E : Value → Shared → Prop} (ok : FmOk g f n) (S : St g f σ ρ s.heap) (hx : f.xs[i]? = some x)
    (r : Rep g.C s.heap (XOf f σ ρ) d v) (h : ∀ h' tk, St g f σ (ρ.set i (some (.sh d))) h' → Trn f σ ρ s.heap σ (ρ.set i (some (.sh d))) h' → Q () { s with heap := h', toks := tk }) : wpAny (model g.prog g.w) f.A (storeName f.env x v) Q E s := by
  refine store_any (b := .sh d) (σ' := σ) ok S (Kf.refl _ _) hx (fun _ _ => rfl) rfl (fun q => nomatch q) (fun h' m k e => ⟨v, e, ?_⟩) fun h' S' T' => h h' _ S' T'
  refine r.mono (fun b o e hb => k b o (fun z => hb (.inr (.inl z))) e) fun b hb => .inl ?_
  rcases hb with hb | hb | ⟨j, ⟨b', hb', ho⟩, hb⟩
  · exact .inl hb
  · exact .inr (.inl hb)
  · rcases set_get hb' with ⟨_, e'⟩ | ⟨_, e'⟩
    · injection e' with e'; subst e'; cases ho
    · exact .inr (.inr ⟨j, ⟨b', e', ho⟩, hb⟩)
theorem Ex.nil {O : Out → Prop} (h : O (.next ρ)) : Ex g f ρ [] O := fun σ s Q E S q ex =>
  wpAny_execs_nil (q .next (.next ρ) s.heap s.toks h ⟨rfl, σ, S, Trn.refl ..⟩)
theorem ret_ok {σ : Sp} {h' : Heap} {d : V} {v : Value} (S : St g f σ ρ h') (r : Rep g.C h' (XOf f σ ρ) d v) : RetOk g f σ.Y h' d v :=
  ⟨S.cs, S.kE, r.weak fun b hb => .inl hb⟩
theorem Ex.ret {e : Expr} {pos : Pos} {rest : List Stmt} {r : Res} {O : Out → Prop} (ok : FmOk g f n) (he : Ev g f ρ e r) (h : ∀ d, r = .ok d → O (.ret d)) (hc : ∀ c, r = .exc c → O (.exc c ρ)) : Ex g f ρ (.Return (some e) pos :: rest) O := fun σ s Q E S q ex => by
  refine wpAny_execs_cons (wpAny_Return_some (he σ s _ _ S (fun v d h' tk er k rep => ?_) fun c e' h' tk er fl => ?_))
  · exact q (.ret v) (.ret d) h' tk (h d er) ⟨v, rfl, ret_ok (S.mono ok k) rep⟩
  · exact ex c ρ e' h' tk (hc c er) ⟨σ, s.heap, S, Trn.refl .., .inl fl⟩
theorem Ex.brk {pos : Pos} {rest : List Stmt} {O : Out → Prop} (h : O (.brk ρ)) : Ex g f ρ (.Break pos :: rest) O := fun σ s Q E S q ex =>
  wpAny_execs_cons (wpAny_Break (q .brk (.brk ρ) s.heap s.toks h ⟨rfl, σ, S, Trn.refl ..⟩))
theorem Ex.cont {pos : Pos} {rest : List Stmt} {O : Out → Prop} (h : O (.cont ρ)) : Ex g f ρ (.Continue pos :: rest) O := fun σ s Q E S q ex =>
  wpAny_execs_cons (wpAny_Continue (q .cont (.cont ρ) s.heap s.toks h ⟨rfl, σ, S, Trn.refl ..⟩))
theorem Ex.assign {x : Str} {xp pos : Pos} {e : Expr} {rest : List Stmt} {d : V} {O : Out → Prop} (ok : FmOk g f n) (i : Nat) (hx : f.xs[i]? = some x) (he : Ev g f ρ e (.ok d)) (h : Ex g f (ρ.set i (some (.sh d))) rest O)
    (hs : swapsWith e (some (.Name x xp)) pos.line f.env = pure false := by rfl) : Ex g f ρ (.Assign [.Name x xp] e pos :: rest) O := fun σ s Q E S q ex => by
  refine wpAny_execs_cons (wpAny_Assign_Name (he σ s _ _ S (fun v d' h' tk er k rep => ?_) fun c e' h' tk er fl => nomatch er) hs)
  injection er with er; subst er
  exact store_sh (s := { s with heap := h', toks := tk }) ok (S.mono ok k) hx rep fun h'' tk' S' T' => Ex.after (σ := σ) (ρ := ρ) (s := s) h S' ((k.trn).trans T') q ex
theorem Ex.assignR {x : Str} {xp pos : Pos} {e : Expr} {rest : List Stmt} {r : Res} {O : Out → Prop} (ok : FmOk g f n) (i : Nat) (hx : f.xs[i]? = some x) (he : Ev g f ρ e r) (h : ∀ d, r = .ok d → Ex g f (ρ.set i (some (.sh d))) rest O) (hc : ∀ c, r = .exc c → O (.exc c ρ))
    (hs : swapsWith e (some (.Name x xp)) pos.line f.env = pure false := by rfl) : Ex g f ρ (.Assign [.Name x xp] e pos :: rest) O := fun σ s Q E S q ex => by
  refine wpAny_execs_cons (wpAny_Assign_Name (he σ s _ _ S (fun v d h' tk er k rep => ?_) fun c e' h' tk er fl => ?_) hs)
  · exact store_sh (s := { s with heap := h', toks := tk }) ok (S.mono ok k) hx rep fun h'' tk' S' T' => Ex.after (σ := σ) (ρ := ρ) (s := s) (h d er) S' ((k.trn).trans T') q ex
  · exact ex c ρ e' h' tk (hc c er) ⟨σ, s.heap, S, Trn.refl .., .inl fl⟩
def Weak (ρ ρ' : En) : Prop := ρ'.length ≤ ρ.length ∧ ∀ (i : Nat) (b : B), ρ'[i]? = some (some b) → ρ[i]? = some (some b)
theorem Weak.refl (ρ : En) : Weak ρ ρ := ⟨Nat.le_refl _, fun _ _ h => h⟩
theorem Weak.nil : Weak [] [] := Weak.refl _
theorem Weak.keep {b : Option B} {ρ ρ' : En} (w : Weak ρ ρ') : Weak (b :: ρ) (b :: ρ') := ⟨Nat.succ_le_succ w.1, fun i c h => by
  cases i with
  | zero => simpa using h
  | succ i => simp at h ⊢; exact w.2 i c h⟩
theorem Weak.drop {b : Option B} {ρ ρ' : En} (w : Weak ρ ρ') : Weak (b :: ρ) (none :: ρ') := ⟨Nat.succ_le_succ w.1, fun i c h => by
  cases i with
  | zero => simp at h
  | succ i => simp at h ⊢; exact w.2 i c h⟩
theorem Weak.own {ρ ρ' : En} (w : Weak ρ ρ') {i : Nat} (h : Own ρ' i) : Own ρ i := let ⟨b, hb, ho⟩ := h; ⟨b, w.2 i b hb, ho⟩
theorem Weak.ownA {ρ' : En} (w : Weak ρ ρ') {σ : Sp} {a : Addr} (ha : OwnA σ ρ' a) : OwnA σ ρ a := let ⟨j, hj, e⟩ := ha; ⟨j, w.own hj, e⟩
theorem Weak.sub {ρ' : En} (w : Weak ρ ρ') {σ : Sp} {a : Addr} (ha : XOf f σ ρ' a) : XOf f σ ρ a := by
  rcases ha with ha | ha | ha
  · exact .inl ha
  · exact .inr (.inl ha)
  · exact .inr (.inr (w.ownA ha))
theorem St.weak {σ : Sp} {ρ' : En} {h : Heap} (S : St g f σ ρ h) (w : Weak ρ ρ') : St g f σ ρ' h := by
  obtain ⟨⟨m, hns, hv⟩, c, kE, nd, fr, len, Yfs, Yex, offY, Y0⟩ := S
  exact ⟨⟨m, hns, fun i x b hx hb => (hv i x b hx (w.2 i b hb)).step (KX.refl _ _) (fun a ha => .inl (w.sub ha)) rfl fun _ _ e => e⟩, c, kE, fun i j hi hj => nd i j (w.own hi) (w.own hj), fun i hi => fr i (w.own hi), Nat.le_trans w.1 len, Yfs, Yex, fun i hi => offY i (w.own hi), Y0⟩
theorem Weak.trn {ρ' : En} (w : Weak ρ ρ') (σ : Sp) (h : Heap) : Trn f σ ρ h σ ρ' h := ⟨fun _ _ e _ _ => e, fun _ o e _ => ⟨o, e⟩, fun _ hb => .inl (w.ownA hb), rfl⟩
theorem Ex.weak {ρ' : En} {b : List Stmt} {O : Out → Prop} (w : Weak ρ ρ') (h : Ex g f ρ' b O) : Ex g f ρ b O := fun σ s Q E S q ex => h.after (S.weak w) (w.trn σ s.heap) q ex
theorem exec_of_execs {M : Model} {A : Around} {st : Stmt} {env : Env} {Q : Flow → Shared → Prop} {E : Value → Shared → Prop} {s : Shared} (h : wpAny M A (execs [st] env) Q E s) : wpAny M A (exec st env) Q E s := fun Γ p hΓ => by
  have := h Γ p hΓ
  rw [execs_cons, Sem.wp_bind'] at this
  exact Sem.wp_mono M Γ _ (fun fl p' s' h' => by cases fl <;> exact h') (fun _ _ _ h' => h') p s this
theorem Ex.seq {st : Stmt} {rest : List Stmt} {O₁ O : Out → Prop} (h : Ex g f ρ [st] O₁) (hn : ∀ ρ', O₁ (.next ρ') → Ex g f ρ' rest O) (ho : ∀ o, O₁ o → (∀ ρ', o ≠ .next ρ') → O o) : Ex g f ρ (st :: rest) O := fun σ s Q E S q ex => by
  have h1 := h σ s (fun fl s' => match fl with | .next => wpAny (model g.prog g.w) f.A (execs rest f.env) Q E s' | fl => Q fl s') E S (fun fl o h' tk o1 ok1 => by
      cases o with
      | next ρ' => obtain ⟨rfl, σ', S', T'⟩ := ok1; exact (hn ρ' o1).after S' T' q ex
      | brk ρ' => obtain ⟨rfl, z⟩ := ok1; exact q _ _ h' tk (ho _ o1 fun _ e => nomatch e) ⟨rfl, z⟩
      | cont ρ' => obtain ⟨rfl, z⟩ := ok1; exact q _ _ h' tk (ho _ o1 fun _ e => nomatch e) ⟨rfl, z⟩
      | ret d => obtain ⟨v, rfl, z⟩ := ok1; exact q _ _ h' tk (ho _ o1 fun _ e => nomatch e) ⟨v, rfl, z⟩
      | exc _ _ => exact ok1.elim) (fun c ρ' e h' tk o1 x => ex c ρ' e h' tk (ho _ o1 fun _ e => nomatch e) x)
  exact wpAny_execs_cons (exec_of_execs h1)
end
def Op2 (g : GI) (n : Nat) (t : Value → Value → Sem Value) (a b : V) (r : Res) : Prop :=
  ∀ (f : Fm) (ρ : En) (σ : Sp) (s : Shared) (Q : Value → Shared → Prop) (E : Value → Shared → Prop) (va vb : Value), FmOk g f n → St g f σ ρ s.heap →
    Rep g.C s.heap (XOf f σ ρ) a va → Rep g.C s.heap (XOf f σ ρ) b vb →
    (∀ v d h' tk, r = .ok d → Kf f.fs s.heap h' → Rep g.C h' (XOf f σ ρ) d v → Q v { s with heap := h', toks := tk }) →
    (∀ c e' h' tk, r = .exc c → Fly f s.heap h' e' c → E (.ref e') { s with heap := h', toks := tk }) →
    wpAny (model g.prog g.w) f.A (t va vb) Q E s
def Te (g : GI) (f : Fm) (ρ : En) (e : Expr) (b : Bool) : Prop :=
  ∀ σ (s : Shared) (Q : Bool → Shared → Prop) (E : Value → Shared → Prop), St g f σ ρ s.heap →
    (∀ h' tk, Kf f.fs s.heap h' → Q b { s with heap := h', toks := tk }) →
    wpAny (model g.prog g.w) f.A (isTrue e f.env (eval e f.env)) Q E s
section
variable {g : GI} {f : Fm} {n : Nat} {ρ : En}
theorem rmono {σ : Sp} {h₀ h h' : Heap} {d : V} {v : Value} (S : St g f σ ρ h₀) (r : Rep g.C h (XOf f σ ρ) d v) (k : Kf f.fs h h') : Rep g.C h' (XOf f σ ρ) d v :=
  r.mono (k.kx S.fsX) fun b m => .inl m
theorem Ev.bin {l r : Expr} {op : Operator} {pos : Pos} {a b : V} {c : Res} (ok : FmOk g f n) (hl : Ev g f ρ l (.ok a)) (hr : Ev g f ρ r (.ok b)) (ho : Op2 g n (binaryOp op) a b c) : Ev g f ρ (.BinOp l op r pos) c := fun σ s Q E S q ex => by
  refine wpAny_BinOp (hl σ s _ _ S (fun v d h₁ t₁ e k₁ r₁ => ?_) fun c e' h' tk ec => nomatch ec)
  injection e with e; subst e
  refine hr σ _ _ _ (S.mono ok k₁) (fun u d h₂ t₂ e k₂ r₂ => ?_) fun c e' h' tk ec => nomatch ec
  injection e with e; subst e
  exact ho f ρ σ { s with heap := h₂, toks := t₂ } Q E v u ok (S.mono ok (k₁.trans k₂)) (rmono S r₁ k₂) r₂ (fun v d h' tk e k r => q v d h' tk e ((k₁.trans k₂).trans k) r)
    fun c e' h' tk e fl => ex c e' h' tk e (fl.trans (k₁.trans k₂))
theorem Ev.cmp {l r : Expr} {op : CmpOp} {pos : Pos} {a b : V} {c : Res} (ok : FmOk g f n) (hl : Ev g f ρ l (.ok a)) (hr : Ev g f ρ r (.ok b)) (ho : Op2 g n (compareOp op) a b c) (hm : behindInMarks op r = false := by rfl) :
    Ev g f ρ (.Compare l [op] [r] pos) c := fun σ s Q E S q ex => by
  refine wpAny_Compare1 (hl σ s _ _ S (fun v d h₁ t₁ e k₁ r₁ => ?_) fun c e' h' tk ec => nomatch ec) hm
  injection e with e; subst e
  refine hr σ _ _ _ (S.mono ok k₁) (fun u d h₂ t₂ e k₂ r₂ => ?_) fun c e' h' tk ec => nomatch ec
  injection e with e; subst e
  exact ho f ρ σ { s with heap := h₂, toks := t₂ } Q E v u ok (S.mono ok (k₁.trans k₂)) (rmono S r₁ k₂) r₂ (fun v d h' tk e k r => q v d h' tk e ((k₁.trans k₂).trans k) r)
    fun c e' h' tk e fl => ex c e' h' tk e (fl.trans (k₁.trans k₂))
theorem Te.cmp {l r : Expr} {op : CmpOp} {pos : Pos} {a b : V} {c : Bool} (ok : FmOk g f n) (hl : Ev g f ρ l (.ok a)) (hr : Ev g f ρ r (.ok b)) (ho : Op2 g n (compareOp op) a b (.ok (.bool c))) (hm : behindInMarks op r = false := by rfl) :
    Te g f ρ (.Compare l [op] [r] pos) c := fun σ s Q E S q => by
  refine wpAny_isTrue_Compare1 (hl σ s _ _ S (fun v d h₁ t₁ e k₁ r₁ => ?_) fun c e' h' tk ec => nomatch ec) hm
  injection e with e; subst e
  refine hr σ _ _ _ (S.mono ok k₁) (fun u d h₂ t₂ e k₂ r₂ => ?_) fun c e' h' tk ec => nomatch ec
  injection e with e; subst e
  refine ho f ρ σ { s with heap := h₂, toks := t₂ } _ E v u ok (S.mono ok (k₁.trans k₂)) (rmono S r₁ k₂) r₂ (fun v d h' tk e k r => ?_) fun c e' h' tk ec => nomatch ec
  injection e with e; subst e
  simp only [Rep] at r; subst r
  exact wpAny_truthy_bool (q h' tk ((k₁.trans k₂).trans k))
theorem Te.not {x : Expr} {pos : Pos} {b : Bool} (hx : Te g f ρ x b) : Te g f ρ (.UnaryOp .Not x pos) (!b) := fun σ s Q E S q => wpAny_isTrue_Not (hx σ s _ E S q)
theorem Te.val {e : Expr} {b : Bool} (he : Ev g f ρ e (.ok (.bool b))) (h : ∀ whole, isTrue e f.env whole = (do let v ← whole; standAt e.pos; holding [v] (truthy v)) := by intro _; rfl) : Te g f ρ e b := fun σ s Q E S q =>
  wpAny_isTrue_value (he σ s _ _ S (fun v d h' tk ed k r => by
    injection ed with ed; subst ed
    simp only [Rep] at r; subst r
    exact wpAny_truthy_bool (q h' tk k)) fun c e' h' tk ec => nomatch ec) (h _)
def TAll (g : GI) (f : Fm) (ρ : En) (op : BoolOp) (es : List Expr) (b : Bool) : Prop :=
  ∀ σ (s : Shared) (Q : Bool → Shared → Prop) (E : Value → Shared → Prop), St g f σ ρ s.heap →
    (∀ h' tk, Kf f.fs s.heap h' → Q b { s with heap := h', toks := tk }) → wpAny (model g.prog g.w) f.A (allTrue op es f.env) Q E s
theorem TAll.and_nil : TAll g f ρ .And [] true := fun σ s Q E S q => wpAny_allTrue_And_nil (q s.heap s.toks (Kf.refl _ _))
theorem TAll.or_nil : TAll g f ρ .Or [] false := fun σ s Q E S q => wpAny_allTrue_Or_nil (q s.heap s.toks (Kf.refl _ _))
theorem TAll.and_cons {x : Expr} {es : List Expr} {a b : Bool} (ok : FmOk g f n) (hx : Te g f ρ x a) (he : a = true → TAll g f ρ .And es b) : TAll g f ρ .And (x :: es) (a && b) := fun σ s Q E S q => by
  refine wpAny_allTrue_And_cons (hx σ s _ E S fun h' tk k => ?_)
  cases a with
  | true => simp only [if_true]; exact he rfl σ _ _ E (S.mono ok k) fun h'' tk' k' => q h'' tk' (k.trans k')
  | false => simp only [Bool.false_eq_true, if_false]; exact q h' tk k
theorem TAll.or_cons {x : Expr} {es : List Expr} {a b : Bool} (ok : FmOk g f n) (hx : Te g f ρ x a) (he : a = false → TAll g f ρ .Or es b) : TAll g f ρ .Or (x :: es) (a || b) := fun σ s Q E S q => by
  refine wpAny_allTrue_Or_cons (hx σ s _ E S fun h' tk k => ?_)
  cases a with
  | true => simp only [if_true]; exact q h' tk k
  | false => simp only [Bool.false_eq_true, if_false]; exact he rfl σ _ _ E (S.mono ok k) fun h'' tk' k' => q h'' tk' (k.trans k')
theorem Te.bool {op : BoolOp} {es : List Expr} {pos : Pos} {b : Bool} (h : TAll g f ρ op es b) : Te g f ρ (.BoolOp op es pos) b := fun σ s Q E S q => wpAny_isTrue_BoolOp (h σ s Q E S q)
theorem Te.chain {l r₁ r₂ : Expr} {o₁ o₂ : CmpOp} {pos : Pos} {a b c : V} {p q : Bool} (ok : FmOk g f n) (hl : Ev g f ρ l (.ok a)) (h1 : Ev g f ρ r₁ (.ok b)) (h2 : p = true → Ev g f ρ r₂ (.ok c)) (c1 : Op2 g n (compareOp o₁) a b (.ok (.bool p)))
    (c2 : p = true → Op2 g n (compareOp o₂) b c (.ok (.bool q))) (hm : lastMarks [o₁, o₂] [r₁, r₂] = false := by rfl) : Te g f ρ (.Compare l [o₁, o₂] [r₁, r₂] pos) (p && q) := fun σ s Q E S qq => by
  refine isTrue_chain (hl σ s _ _ S (fun v d h₁ t₁ e k₁ rv => ?_) fun c e' h' tk ec => nomatch ec) hm
  injection e with e; subst e
  show wpAny _ _ (do
    let rv ← holding [v] (eval r₁ f.env)
    standAt pos
    let c ← holding [v, rv] (compareOp o₁ v rv)
    release [v, rv] [c]
    if ← holding [c, rv] (truthy c) then testChain pos rv [o₂] [eval r₂ f.env] else pure false) _ _ _
  refine wpAny_bind (wpAny_holding (h1 σ _ _ _ (S.mono ok k₁) (fun u d h₂ t₂ e k₂ ru => ?_) fun c e' h' tk ec => nomatch ec))
  injection e with e; subst e
  have k12 := k₁.trans k₂
  refine wpAny_bind (wpAny_standAt (wpAny_bind (wpAny_holding (c1 f ρ σ { s with heap := h₂, toks := t₂ } _ _ v u ok (S.mono ok k12) (rmono S rv k₂) ru (fun w d h₃ t₃ e k₃ rw' => ?_) fun c e' h' tk ec => nomatch ec))))
  injection e with e; subst e
  simp only [Rep] at rw'; subst rw'
  have k13 := k12.trans k₃
  refine wpAny_bind (wpAny_release (wpAny_bind (wpAny_holding (wpAny_truthy_bool ?_))))
  cases p with
  | false => simp only [Bool.false_eq_true, if_false]; exact wpAny_pure (qq h₃ t₃ k13)
  | true =>
    simp only [if_true]
    show wpAny _ _ (do
      let rv ← holding [u] (eval r₂ f.env)
      standAt pos
      let c ← operate [u, rv] (compareOp o₂ u rv)
      holding [c] (truthy c)) _ _ _
    refine wpAny_bind (wpAny_holding (h2 rfl σ { s with heap := h₃, toks := t₃ } _ _ (S.mono ok k13) (fun y d h₄ t₄ e k₄ ry => ?_) fun c e' h' tk ec => nomatch ec))
    injection e with e; subst e
    have k14 := k13.trans k₄
    refine wpAny_bind (wpAny_standAt (wpAny_bind (wpAny_operateT (c2 rfl f ρ σ { s with heap := h₄, toks := t₄ } _ _ u y ok (S.mono ok k14) (rmono S (rmono S ru k₃) k₄) ry (fun z d h₅ t₅ e k₅ rz => ?_) fun c e' h' tk ec => nomatch ec))))
    injection e with e; subst e
    simp only [Rep] at rz; subst rz
    exact wpAny_holding (wpAny_truthy_bool (qq h₅ t₅ (k14.trans k₅)))
theorem Ev.ite {t a b : Expr} {pos : Pos} {c : Bool} {r r' : Res} (ok : FmOk g f n) (ht : Te g f ρ t c) (ha : c = true → Ev g f ρ a r) (hb : c = false → Ev g f ρ b r') : Ev g f ρ (.IfExp t a b pos) (if c then r else r') := fun σ s Q E S q ex => by
  refine wpAny_IfExp (ht σ s _ E S fun h' tk k => ?_)
  cases c with
  | true => simp only [if_true] at q ex ⊢; exact ha rfl σ _ Q E (S.mono ok k) (fun v d h'' tk' e k' r => q v d h'' tk' e (k.trans k') r) fun c e' h'' tk' e fl => ex c e' h'' tk' e (fl.trans k)
  | false => simp only [Bool.false_eq_true, if_false] at q ex ⊢; exact hb rfl σ _ Q E (S.mono ok k) (fun v d h'' tk' e k' r => q v d h'' tk' e (k.trans k') r) fun c e' h'' tk' e fl => ex c e' h'' tk' e (fl.trans k)
theorem Ev.iteOk {t a b : Expr} {pos : Pos} {c : Bool} {d e : V} (ok : FmOk g f n) (ht : Te g f ρ t c) (ha : c = true → Ev g f ρ a (.ok d)) (hb : c = false → Ev g f ρ b (.ok e)) : Ev g f ρ (.IfExp t a b pos) (.ok (if c then d else e)) := by
  have := Ev.ite (pos := pos) ok ht ha hb
  cases c <;> exact this
def BAll (g : GI) (f : Fm) (ρ : En) (op : BoolOp) (es : List Expr) (b : Bool) : Prop :=
  ∀ pos σ (s : Shared) (Q : Value → Shared → Prop) (E : Value → Shared → Prop), St g f σ ρ s.heap →
    (∀ h' tk, Kf f.fs s.heap h' → Q (.bool b) { s with heap := h', toks := tk }) → wpAny (model g.prog g.w) f.A (boolOp pos op (evalEach es f.env)) Q E s
theorem BAll.one {op : BoolOp} {e : Expr} {b : Bool} (he : Ev g f ρ e (.ok (.bool b))) : BAll g f ρ op [e] b := fun pos σ s Q E S q => by
  show wpAny _ _ (eval e f.env) _ _ _
  refine he σ s _ _ S (fun v d h' tk ed k r => ?_) fun c e' h' tk ec => nomatch ec
  injection ed with ed; subst ed
  simp only [Rep] at r; subst r
  exact q h' tk k
theorem BAll.and_cons {x y : Expr} {es : List Expr} {a b : Bool} (ok : FmOk g f n) (hx : Ev g f ρ x (.ok (.bool a))) (he : a = true → BAll g f ρ .And (y :: es) b) : BAll g f ρ .And (x :: y :: es) (a && b) := fun pos σ s Q E S q => by
  show wpAny _ _ (do
    let v ← eval x f.env
    standAt pos
    let t ← holding [v] (truthy v)
    match BoolOp.And, t with
    | .And, false | .Or, true => pure v
    | _, _ => boolOp pos .And (evalEach (y :: es) f.env)) _ _ _
  refine wpAny_bind (hx σ s _ _ S (fun v d h' tk ed k r => ?_) fun c e' h' tk ec => nomatch ec)
  injection ed with ed; subst ed
  simp only [Rep] at r; subst r
  refine wpAny_bind (wpAny_standAt (wpAny_bind (wpAny_holding (wpAny_truthy_bool ?_))))
  cases a with
  | false => exact wpAny_pure (q h' tk k)
  | true => exact he rfl pos σ _ _ E (S.mono ok k) fun h'' tk' k' => q h'' tk' (k.trans k')
theorem Ev.boolop {op : BoolOp} {es : List Expr} {pos : Pos} {b : Bool} (h : BAll g f ρ op es b) : Ev g f ρ (.BoolOp op es pos) (.ok (.bool b)) := fun σ s Q E S q ex => by
  show wpAny _ _ (boolOp pos op (evalEach es f.env)) _ _ _
  exact h pos σ s Q E S fun h' tk k => q _ _ h' tk rfl k (by simp only [Rep])
theorem Ex.ite {t : Expr} {a b : List Stmt} {pos : Pos} {c : Bool} {O : Out → Prop} (ok : FmOk g f n) (ht : Te g f ρ t c) (ha : c = true → Ex g f ρ a O) (hb : c = false → Ex g f ρ b O) : Ex g f ρ [.If t a b pos] O := fun σ s Q E S q ex => by
  have fin : wpAny (model g.prog g.w) f.A (exec (.If t a b pos) f.env) Q E s := by
    refine wpAny_If (ht σ s _ E S fun h' tk k => ?_)
    cases c with
    | true => simp only [if_true]; exact (ha rfl).after (S.mono ok k) (k.trn) q ex
    | false => simp only [Bool.false_eq_true, if_false]; exact (hb rfl).after (S.mono ok k) (k.trn) q ex
  refine wpAny_execs_cons (wpAny_mono fin (fun fl s' h => ?_) fun _ _ h => h)
  cases fl <;> first | exact h | exact wpAny_execs_nil h
theorem Ex.iff {t : Expr} {a b rest : List Stmt} {pos : Pos} {c : Bool} {O : Out → Prop} (ok : FmOk g f n) (ht : Te g f ρ t c) (O₁ : Out → Prop) (ha : c = true → Ex g f ρ a O₁) (hb : c = false → Ex g f ρ b O₁)
    (hn : ∀ ρ', O₁ (.next ρ') → Ex g f ρ' rest O) (ho : ∀ o, O₁ o → (∀ ρ', o ≠ .next ρ') → O o) : Ex g f ρ (.If t a b pos :: rest) O := Ex.seq (Ex.ite ok ht ha hb) hn ho
end
section
variable {g : GI} {n : Nat} {a b : Int}
theorem op2_int {t : Value → Value → Sem Value} {c : Int} (h : ∀ {A : Around} {E : Value → Shared → Prop} {s : Shared} {Q : Value → Shared → Prop} {x y : Tok}, Q (.int c s.toks) { s with toks := s.toks + 1 } → wpAny (model g.prog g.w) A (t (.int a x) (.int b y)) Q E s) :
    Op2 g n t (.int a) (.int b) (.ok (.int c)) := fun f ρ σ s Q E va vb ok S ra rb q ex => by
  simp only [Rep] at ra rb
  obtain ⟨x, rfl⟩ := ra
  obtain ⟨y, rfl⟩ := rb
  exact h (q _ _ s.heap _ rfl (Kf.refl _ _) (by simp only [Rep]; exact ⟨_, rfl⟩))
theorem op2_int_bool {t : Value → Value → Sem Value} {c : Bool} (h : ∀ {A : Around} {E : Value → Shared → Prop} {s : Shared} {Q : Value → Shared → Prop} {x y : Tok}, Q (.bool c) s → wpAny (model g.prog g.w) A (t (.int a x) (.int b y)) Q E s) :
    Op2 g n t (.int a) (.int b) (.ok (.bool c)) := fun f ρ σ s Q E va vb ok S ra rb q ex => by
  simp only [Rep] at ra rb
  obtain ⟨x, rfl⟩ := ra
  obtain ⟨y, rfl⟩ := rb
  exact h (q _ _ s.heap s.toks rfl (Kf.refl _ _) (by simp only [Rep]))
theorem Op2.add : Op2 g n (binaryOp .Add) (.int a) (.int b) (.ok (.int (a + b))) := op2_int wpAny_add_int
theorem Op2.iadd : Op2 g n (inplaceOp .Add) (.int a) (.int b) (.ok (.int (a + b))) := op2_int wpAny_iadd_int
theorem Op2.sub : Op2 g n (binaryOp .Sub) (.int a) (.int b) (.ok (.int (a - b))) := op2_int sub_int
theorem Op2.isub : Op2 g n (inplaceOp .Sub) (.int a) (.int b) (.ok (.int (a - b))) := op2_int isub_int
theorem Op2.mul (hm : IntMulOk a b) : Op2 g n (binaryOp .Mult) (.int a) (.int b) (.ok (.int (a * b))) := op2_int (mul_int · hm)
theorem Op2.mod (hb : b ≠ 0) : Op2 g n (binaryOp .Mod) (.int a) (.int b) (.ok (.int (a.fmod b))) := op2_int (mod_int' hb)
theorem Op2.fdiv (hb : b ≠ 0) (hl : b.natAbs.log2 < 9000) : Op2 g n (binaryOp .FloorDiv) (.int a) (.int b) (.ok (.int (a.fdiv b))) := op2_int fun h => floordiv_int hb h (.inl (PyProof.noPylong_of_log2 hl))
theorem Op2.ifdiv (hb : b ≠ 0) (hl : b.natAbs.log2 < 9000) : Op2 g n (inplaceOp .FloorDiv) (.int a) (.int b) (.ok (.int (a.fdiv b))) := op2_int fun h => ifloordiv_int hb h (.inl (PyProof.noPylong_of_log2 hl))
theorem Op2.pow (hn : 0 ≤ b) (hs : (Builtin.Int.intBits a : Int) * b ≤ 2 ^ 27) : Op2 g n (binaryOp .Pow) (.int a) (.int b) (.ok (.int (a ^ b.toNat))) := op2_int (pow_int hn hs)
theorem Op2.lt : Op2 g n (compareOp .Lt) (.int a) (.int b) (.ok (.bool (decide (a < b)))) := op2_int_bool lt_int
theorem Op2.le : Op2 g n (compareOp .LtE) (.int a) (.int b) (.ok (.bool (decide (a ≤ b)))) := op2_int_bool le_int
theorem Op2.gt : Op2 g n (compareOp .Gt) (.int a) (.int b) (.ok (.bool (decide (b < a)))) := op2_int_bool gt_int
theorem Op2.ge : Op2 g n (compareOp .GtE) (.int a) (.int b) (.ok (.bool (decide (b ≤ a)))) := op2_int_bool ge_int
theorem Op2.eq : Op2 g n (compareOp .Eq) (.int a) (.int b) (.ok (.bool (decide (a = b)))) := by
  have e : decide (a = b) = (a == b) := by by_cases h : a = b <;> simp [h]
  rw [e]; exact op2_int_bool eq_int
theorem Op2.ne : Op2 g n (compareOp .NotEq) (.int a) (.int b) (.ok (.bool (decide (a ≠ b)))) := by
  have e : decide (a ≠ b) = (a != b) := by by_cases h : a = b <;> simp [h]
  rw [e]; exact op2_int_bool ne_int
end
section
variable {g : GI} {f : Fm} {n : Nat} {ρ : En}
theorem Ev.neg {e : Expr} {pos : Pos} {a : Int} (he : Ev g f ρ e (.ok (.int a))) : Ev g f ρ (.UnaryOp .USub e pos) (.ok (.int (-a))) := fun σ s Q E S q ex => by
  refine wpAny_UnaryOp (he σ s _ _ S (fun v d h' tk ed k r => ?_) fun c e' h' tk ec => nomatch ec)
  injection ed with ed; subst ed
  simp only [Rep] at r; obtain ⟨t, rfl⟩ := r
  exact neg_int (q _ _ h' _ rfl k (by simp only [Rep]; exact ⟨_, rfl⟩))
theorem Ex.aug {x : Str} {xp pos : Pos} {op : Operator} {e : Expr} {rest : List Stmt} {a b c : V} {O : Out → Prop} (ok : FmOk g f n) (i : Nat) (hx : f.xs[i]? = some x) (hm : ρ[i]? = some (some (.sh a))) (he : Ev g f ρ e (.ok b)) (ho : Op2 g n (inplaceOp op) a b (.ok c))
    (h : Ex g f (ρ.set i (some (.sh c))) rest O) : Ex g f ρ (.AugAssign (.Name x xp) op e pos :: rest) O := fun σ s Q E S q ex => by
  obtain ⟨m, hns, hv⟩ := S.ex
  obtain ⟨v, ev, rv⟩ := hv i x _ (Fm.nmx hx) hm
  refine wpAny_execs_cons (wpAny_AugAssign_Name (wpAny_loadName_local ok.kind (ok.loc x (List.mem_of_getElem? hx)) hns ev (he σ s _ _ S (fun u d h₁ t₁ e k₁ ru => ?_) fun c e' h' tk ec => nomatch ec)))
  injection e with e; subst e
  refine ho f ρ σ { s with heap := h₁, toks := t₁ } _ _ v u ok (S.mono ok k₁) (rmono S rv k₁) ru (fun w d h₂ t₂ e k₂ rw' => ?_) fun c e' h' tk ec => nomatch ec
  injection e with e; subst e
  exact store_sh (s := { s with heap := h₂, toks := t₂ }) ok (S.mono ok (k₁.trans k₂)) hx rw' fun h'' tk' S' T' => Ex.after (σ := σ) (ρ := ρ) (s := s) h S' ((k₁.trans k₂).trn.trans T') q ex
end
def ItSrc (g : GI) (f : Fm) (ρ : En) (e : Expr) (items : List V) : Prop :=
  ∀ σ (s : Shared) (Q : Value → Shared → Prop) (E : Value → Shared → Prop), St g f σ ρ s.heap →
    (∀ I h₁ h₂ tk fp P Stt, Kf f.fs s.heap h₁ → Kf f.fs h₁ h₂ → h₁.get? I = none → (∀ i h, Stt i h → ∃ o, h.get? I = some o) → Walks g.prog g.w f.A I fp [I] items.length P Stt → Stt 0 h₂ →
      (∀ b ∈ fp, b = I ∨ (¬ XOf f σ ρ b ∧ ∃ o, h₁.get? b = some o)) → (∀ i v d, P i v → items[i]? = some d → Rep g.C h₁ (XOf f σ ρ) d v) → Q (.ref I) { s with heap := h₂, toks := tk }) →
    wpAny (model g.prog g.w) f.A (eval e f.env) (fun x s₁ => wpAny (model g.prog g.w) f.A (pyIter x) Q E s₁) E s
section
variable {g : GI} {f : Fm} {n : Nat} {ρ : En}
def Sp.plus (σ : Sp) (I : Addr) : Sp := ⟨fun b => σ.Y b ∨ b = I, σ.α⟩
theorem plus_X {σ : Sp} {I : Addr} {ρ : En} {b : Addr} (h : XOf f (σ.plus I) ρ b) : XOf f σ ρ b ∨ b = I := by
  rcases h with (h | h) | h | h
  · exact .inl (.inl h)
  · exact .inr h
  · exact .inl (.inr (.inl h))
  · exact .inl (.inr (.inr h))
theorem St.plus {σ : Sp} {h h' : Heap} {I : Addr} (ok : FmOk g f n) (S : St g f σ ρ h) (k : Kf f.fs h h') (hI : h.get? I = none) (hI' : ∃ o, h'.get? I = some o) : St g f (σ.plus I) ρ h' := by
  have S' := S.mono ok k
  have nown : ∀ i, Own ρ i → σ.α i ≠ I := fun i hi z => by
    obtain ⟨o, e⟩ := S.ownEx ⟨i, hi, rfl⟩; rw [z, hI] at e; cases e
  obtain ⟨⟨m, hns, hv⟩, c, kE, nd, fr, len, Yfs, yex, offY, Y0⟩ := S
  refine ⟨⟨m, k.ns hns, fun i x b hx hb => (hv i x b hx hb).step (k.kx fun b m => ?_) (fun b m => ?_) rfl fun ho o e => (k _ o e).1 ?_⟩, S'.cs, S'.kE, nd, fr, len, fun b hb => .inl (Yfs b hb), fun b hb => hb.elim (fun hb => S'.Yex b hb) fun hb => hb ▸ hI', fun i hi m => m.elim (offY i hi) (nown i hi), fun b hb => hb.elim (Y0 b) fun hb => hb ▸ (by cases z : g.H0.get? I with | none => rfl | some o => rw [c.keep I o z] at hI; cases hI)⟩
  · rw [Fm.fs_eq] at m
    rcases List.mem_cons.mp m with rfl | m
    · exact .inr (.inl rfl)
    · exact .inl (Yfs b m)
  · rcases plus_X m with m | m
    · exact .inl m
    · right; rw [m]; exact hI
  · have := fr i ⟨b, hb, ho⟩
    exact own_off ok this.1 this.2.1
theorem St.minus {σ σ' : Sp} {h : Heap} {I : Addr} (S : St g f σ' ρ h) (hY : σ'.Y = (σ.plus I).Y) (hYf : ∀ b ∈ fsOf f.outer, σ.Y b) : St g f ⟨σ.Y, σ'.α⟩ ρ h := by
  obtain ⟨⟨m, hns, hv⟩, c, kE, nd, fr, len, Yfs, yex, offY, Y0⟩ := S
  refine ⟨⟨m, hns, fun i x b hx hb => (hv i x b hx hb).step (KX.refl _ _) (fun b m => .inl ?_) rfl fun _ _ e => e⟩, c, kE, nd, fr, len, hYf, fun b hb => yex b (by rw [hY]; exact .inl hb), fun i hi m => offY i hi (by rw [hY]; exact .inl m), fun b hb => Y0 b (by rw [hY]; exact .inl hb)⟩
  rcases m with m | m | m
  · refine .inl ?_; rw [hY]; exact .inl m
  · exact .inr (.inl m)
  · exact .inr (.inr m)
theorem St.tickAny {σ : Sp} {Y' : Addr → Prop} {h h' : Heap} {I : Addr} (ok : FmOk g f n) (S : St g f σ ρ h) (hY : σ.Y I) (hY' : ∀ b, Y' b → σ.Y b) (hYf : ∀ b ∈ fsOf f.outer, Y' b) (hn : ∀ b, b = I → b ∉ f.fs ∧ ¬ OwnA σ ρ b ∧ f.hE.get? b = none ∧ g.H0.get? b = none) (k : ∀ b o, b ≠ I → h.get? b = some o → h'.get? b = some o)
    (hI' : Y' I → ∃ o, h'.get? I = some o) : St g f ⟨Y', σ.α⟩ ρ h' := by
  obtain ⟨hI1, hI2, hI3, hI4⟩ := hn I rfl
  have fsX := S.fsX
  obtain ⟨⟨m, ⟨oL, es, ep, hL, rest⟩, hv⟩, c, kE, nd, fr, len, Yfs, yex, offY, Y0⟩ := S
  have LI : f.L ≠ I := fun z => hI1 (by rw [← z, Fm.fs_eq]; exact .head _)
  refine ⟨⟨m, ⟨oL, es, ep, k _ _ LI hL, rest⟩, fun i x b hx hb => (hv i x b hx hb).step (fun b o e n => k b o (fun z => n (z ▸ .inl hY)) e) (fun b m => .inl (m.elim (fun m => .inl (hY' b m)) .inr)) rfl fun ho o e => k _ o (fun z => hI2 ⟨i, ⟨b, hb, ho⟩, z.symm⟩) e⟩,
    ⟨fun b o e => k b o (fun z => by rw [z, hI4] at e; cases e) (c.keep b o e), ?_⟩, fun b o e => ?_, nd, fr, len, hYf, fun b hb => ?_, fun i hi m => offY i hi (hY' _ m), fun b hb => Y0 b (hY' b hb)⟩
  rotate_right
  · by_cases z : b = I
    · rw [z]; exact hI' (z ▸ hb)
    · obtain ⟨o, e⟩ := yex b (hY' b hb); exact ⟨o, k b o z e⟩
  · have hf := c.ff
    have no : ∀ b ∈ fsOf f.outer, b ≠ I := fun b hb z => hI1 (by rw [← z, Fm.fs_eq]; exact .tail _ hb)
    generalize f.outer = l at hf no
    clear c kE nd fr len Yfs hv fsX yex offY Y0 hYf
    induction l with
    | nil => trivial
    | cons env r ih =>
      obtain ⟨a1, ⟨L', o, q1, q2, q3, q4⟩, a3⟩ := hf
      refine ⟨a1, ⟨L', o, q1, q2, k _ _ (no L' (by unfold fsOf; rw [List.filterMap_cons, q1]; exact .head _)) q3, q4⟩, ih a3 fun b hb => no b (by unfold fsOf at hb ⊢; rw [List.filterMap_cons, q1]; exact .tail _ hb)⟩
  · have hb : b ≠ I := fun z => by rw [z, hI3] at e; cases e
    obtain ⟨p, sl, q⟩ := kE b o e
    exact ⟨fun n => k b o hb (p n), sl, k b _ hb q⟩
theorem St.tick {σ : Sp} {h h' : Heap} {I : Addr} (ok : FmOk g f n) (S : St g f σ ρ h) (hY : σ.Y I) (hn : ∀ b, b = I → b ∉ f.fs ∧ ¬ OwnA σ ρ b ∧ f.hE.get? b = none ∧ g.H0.get? b = none) (k : ∀ b o, b ≠ I → h.get? b = some o → h'.get? b = some o) (hI' : ∃ o, h'.get? I = some o) : St g f σ ρ h' :=
  S.tickAny (Y' := σ.Y) ok hY (fun _ m => m) S.Yfs hn k fun _ => hI'
def TurnO (stp : En → Prop) (O : Out → Prop) : Out → Prop
  | .next ρ' | .cont ρ' => stp ρ'
  | .brk ρ' => O (.next ρ')
  | .ret d => O (.ret d)
  | .exc _ _ => False
theorem Ex.for {x : Str} {px pos : Pos} {e : Expr} {body : List Stmt} {items : List V} {O : Out → Prop} {τ : Type} (ok : FmOk g f n) (i : Nat) (hx : f.xs[i]? = some x) (he : ItSrc g f ρ e items) (R : τ → En) (J : Nat → τ → Prop) (t0 : τ) (h0 : Weak ρ (R t0)) (j0 : J 0 t0)
    (turn : ∀ (k : Nat) (t : τ) (d : V), items[k]? = some d → J k t → Ex g f ((R t).set i (some (.sh d))) body (TurnO (fun ρ' => ∃ t', J (k + 1) t' ∧ Weak ρ' (R t')) O))
    (done : ∀ t, J items.length t → O (.next (R t))) (hs : ∀ x, foldedSetIterable e f.env x = pure x := by intro _; rfl) : Ex g f ρ [.For (.Name x px) e body [] pos] O := fun σ s Q E S q ex => by
  have fin : wpAny (model g.prog g.w) f.A (exec (.For (.Name x px) e body [] pos) f.env) Q E s := by
    refine wpAny_For (he σ s _ E S fun I h₁ h₂ tk fp P Stt k₁ k₂ hI exI W st0 hfp hP => ?_) hs
    have S₁ := S.mono ok k₁
    have S₂ : St g f (σ.plus I) ρ h₂ := S₁.plus ok k₂ hI (exI 0 _ st0)
    have e1 : f.hE.get? I = none := by
      cases z : f.hE.get? I with
      | none => rfl
      | some o => obtain ⟨_, q⟩ := (S₁.kE I o z).2; rw [hI] at q; cases q
    have e2 : g.H0.get? I = none := by
      cases z : g.H0.get? I with
      | none => rfl
      | some o => have := S₁.cs.keep I o z; rw [hI] at this; cases this
    have e3 : I ∉ f.fs := fun m => by
      rw [Fm.fs_eq] at m
      rcases List.mem_cons.mp m with z | z
      · obtain ⟨m, ⟨oL, _, _, hL, _⟩, _⟩ := S₁.ex; rw [← z, hI] at hL; cases hL
      · obtain ⟨o, z', _⟩ := (S₁.cs.ff.mem z).2; rw [hI] at z'; cases z'
    have e4 : ¬ OwnA σ ρ I := by
      rintro ⟨j, ⟨b', hb', ho⟩, hj⟩
      obtain ⟨m', _, hv⟩ := S₁.ex
      have hl : j < f.nm.length := Nat.lt_of_lt_of_le (List.getElem?_eq_some_iff.mp hb').1 S₁.len
      obtain ⟨o, z⟩ := (hv j _ b' (List.getElem?_eq_getElem hl) hb').there ho
      rw [← hj, hI] at z; cases z
    have T₂ : Trn f (σ.plus I) ρ h₁ (σ.plus I) ρ h₂ := k₂.trn
    refine codeAny_forLoop (fun c s' => ∃ (k : Nat) (t : τ) (σ' : Sp) (h' : Heap) (tk' : Nat), s' = { s with heap := h', toks := tk' } ∧ k ≤ items.length ∧ c = items.length - k ∧ J k t ∧ St g f σ' (R t) h' ∧ Trn f (σ.plus I) ρ h₁ σ' (R t) h' ∧ ¬ OwnA σ' (R t) I ∧ Stt k h') ?_ items.length
      ⟨0, t0, σ.plus I, h₂, tk, rfl, Nat.zero_le _, rfl, j0, S₂.weak h0, T₂.trans (h0.trn _ _), fun m => e4 (h0.ownA m), st0⟩
    rintro c s' ⟨k, t, σ', h', tk', rfl, hk, rfl, hJ, S', T', nI, st'⟩
    have hYI : σ'.Y I := by rw [T'.Y]; exact .inr rfl
    have off : ∀ b, b = I → b ∉ f.fs ∧ ¬ OwnA σ' (R t) b ∧ f.hE.get? b = none ∧ g.H0.get? b = none := fun b z => by subst z; exact ⟨e3, nI, e1, e2⟩
    have tick : ∀ {h₃ : Heap}, (∀ b o, b ≠ I → h'.get? b = some o → h₃.get? b = some o) → Trn f (σ.plus I) ρ h₁ σ' (R t) h₃ := fun {h₃} kp =>
      ⟨fun b o e n1 n2 => kp b o (fun z => by rw [z, hI] at e; cases e) (T'.keep b o e n1 n2), fun b o e m => let ⟨o', z⟩ := T'.frames b o e m; ⟨o', kp b o' (fun z => e3 (z ▸ m)) z⟩, T'.own, T'.Y⟩
    have backT : ∀ {ρ'' : En} {σ'' : Sp} {h'' : Heap}, Trn f (σ.plus I) ρ h₁ σ'' ρ'' h'' → Trn f σ ρ s.heap ⟨σ.Y, σ''.α⟩ ρ'' h'' := fun {ρ'' σ'' h''} T'' => by
      refine ⟨fun b o e n1 n2 => T''.keep b o ((k₁ b o e).1 n1) n1 (fun ⟨j, z, z'⟩ => n2 ⟨j, z, z'⟩), fun b o e m => let ⟨_, z⟩ := (k₁ b o e).2; T''.frames b _ z m, fun b m => ?_, rfl⟩
      rcases T''.own b m with ⟨j, z, z'⟩ | m
      · exact .inl ⟨j, z, z'⟩
      · right
        cases z : s.heap.get? b with
        | none => rfl
        | some o => obtain ⟨_, z'⟩ := (k₁ b o z).2; rw [m] at z'; cases z'
    have back : ∀ {ρ'' : En} {σ'' : Sp} {h'' : Heap}, St g f σ'' ρ'' h'' → Trn f (σ.plus I) ρ h₁ σ'' ρ'' h'' → St g f ⟨σ.Y, σ''.α⟩ ρ'' h'' ∧ Trn f σ ρ s.heap ⟨σ.Y, σ''.α⟩ ρ'' h'' := fun {ρ'' σ'' h''} S'' T'' => ⟨S''.minus T''.Y S.Yfs, backT T''⟩
    by_cases hlt : k < items.length
    · refine W.item k { s with heap := h', toks := tk' } _ _ hlt st' fun v h₃ tk₃ hPv st₃ hk₃ => ?_
      have keep₃ : ∀ b o, b ≠ I → h'.get? b = some o → h₃.get? b = some o := fun b o hb e => hk₃ b o (by simpa using hb) e
      have S₃ : St g f σ' (R t) h₃ := S'.tick ok hYI off keep₃ (exI _ _ st₃)
      have T₃ := tick keep₃
      have hd : items[k]? = some items[k] := List.getElem?_eq_getElem hlt
      have rv : Rep g.C h₃ (XOf f σ' (R t)) items[k] v := by
        refine (hP k v _ hPv hd).mono (fun b o e nx => T₃.keep b o e (fun m => nx (S₁.fsX b m)) fun m => nx (.inr (.inr m))) fun b m => ?_
        rcases m with m | m | m
        · rw [T'.Y] at m
          rcases m with m | m
          · exact .inl (.inl m)
          · exact .inr (m ▸ hI)
        · exact .inl (.inr (.inl m))
        · rcases T'.own b m with m | m
          · exact .inl (.inr (.inr m))
          · exact .inr m
      refine wpAny_assign_Name (store_sh (s := { s with heap := h₃, toks := tk₃ }) ok S₃ hx rv fun h₄ tk₄ S₄ T₄ => ?_)
      have nI₄ : ¬ OwnA σ' ((R t).set i (some (.sh items[k]))) I := fun m => by
        rcases T₄.own I m with m | m
        · exact nI m
        · obtain ⟨o, z⟩ := exI _ _ st₃
          have z' : ({ s with heap := h₃, toks := tk₃ } : Shared).heap.get? I = none := m
          rw [show ({ s with heap := h₃, toks := tk₃ } : Shared).heap = h₃ from rfl, z] at z'; cases z'
      have st₄ : Stt (k + 1) h₄ := W.frame _ _ _ st₃ fun b hb o e => by
        rcases hfp b hb with z | ⟨nx, o', z⟩
        · subst z; exact T₄.keep b o e e3 nI
        · refine T₄.keep b o e (fun m => nx (S₁.fsX b m)) fun m => ?_
          rcases T'.own b m with m | m
          · exact nx (.inr (.inr m))
          · rw [z] at m; cases m
      refine turn k t _ hd hJ σ' { s with heap := h₄, toks := tk₄ } _ _ S₄ (fun fl o h₅ tk₅ ho hok => ?_) fun c ρ' e' h₅ tk₅ ho _ => ho.elim
      have next : ∀ ρ' σ₅, (∃ t', J (k + 1) t' ∧ Weak ρ' (R t')) → St g f σ₅ ρ' h₅ → Trn f σ' ((R t).set i (some (.sh items[k]))) h₄ σ₅ ρ' h₅ →
          ∃ m, m < items.length - k ∧ ∃ (k' : Nat) (t' : τ) (σ' : Sp) (h' : Heap) (tk' : Nat), ({ s with heap := h₅, toks := tk₅ } : Shared) = { s with heap := h', toks := tk' } ∧ k' ≤ items.length ∧ m = items.length - k' ∧ J k' t' ∧ St g f σ' (R t') h' ∧ Trn f (σ.plus I) ρ h₁ σ' (R t') h' ∧ ¬ OwnA σ' (R t') I ∧ Stt k' h' := by
        rintro ρ' σ₅ ⟨t', hJ', w'⟩ S₅ T₅
        have nI₅ : ¬ OwnA σ₅ ρ' I := fun m => by
          rcases T₅.own I m with m | m
          · exact nI₄ m
          · obtain ⟨o, z⟩ := exI _ _ st₄; rw [z] at m; cases m
        refine ⟨items.length - (k + 1), Nat.sub_succ_lt_self _ _ hlt, k + 1, t', σ₅, h₅, tk₅, rfl, hlt, rfl, hJ', S₅.weak w', ((T₃.trans T₄).trans T₅).trans (w'.trn _ _), fun m => nI₅ (w'.ownA m), ?_⟩
        refine W.frame _ _ _ st₄ fun b hb o e => ?_
        rcases hfp b hb with z | ⟨nx, o', z⟩
        · subst z; exact T₅.keep b o e e3 nI₄
        · refine T₅.keep b o e (fun m => nx (S₁.fsX b m)) fun m => ?_
          rcases (T₃.trans T₄).own b m with m | m
          · exact nx (.inr (.inr m))
          · rw [z] at m; cases m
      cases o with
      | next ρ' => obtain ⟨rfl, σ₅, S₅, T₅⟩ := hok; exact next ρ' σ₅ ho S₅ T₅
      | cont ρ' => obtain ⟨rfl, σ₅, S₅, T₅⟩ := hok; exact next ρ' σ₅ ho S₅ T₅
      | brk ρ' =>
        obtain ⟨rfl, σ₅, S₅, T₅⟩ := hok
        obtain ⟨S₆, T₆⟩ := back S₅ ((T₃.trans T₄).trans T₅)
        exact q .next (.next ρ') h₅ tk₅ ho ⟨rfl, _, S₆, T₆⟩
      | ret d =>
        obtain ⟨u, rfl, c, kE, r⟩ := hok
        refine q (.ret u) (.ret d) h₅ tk₅ ho ⟨u, rfl, c, kE, r.weak fun b m => ?_⟩
        show σ'.Y b
        rw [T'.Y]; exact .inl m
      | exc _ _ => exact ho.elim
    · have hke : k = items.length := by omega
      subst hke
      refine W.done { s with heap := h', toks := tk' } _ _ st' fun h₃ tk₃ hk₃ => wpAny_execs_nil ?_
      have keep₃ : ∀ b o, b ≠ I → h'.get? b = some o → h₃.get? b = some o := fun b o hb e => hk₃ b o (by simpa using hb) e
      have nYI : ¬ σ.Y I := fun m => by
        obtain ⟨o, e⟩ := S₁.Yex I m; rw [hI] at e; cases e
      have S₄ : St g f ⟨σ.Y, σ'.α⟩ (R t) h₃ := S'.tickAny ok hYI (fun b m => by rw [T'.Y]; exact .inl m) S.Yfs off keep₃ fun m => (nYI m).elim
      have T₄ := backT (tick keep₃)
      exact q .next (.next (R t)) h₃ tk₃ (done t hJ) ⟨rfl, _, S₄, T₄⟩
  refine wpAny_execs_cons (wpAny_mono fin (fun fl s' h => ?_) fun _ _ h => h)
  cases fl <;> first | exact h | exact wpAny_execs_nil h
end
section
variable {g : GI} {f : Fm} {n : Nat} {ρ : En}
theorem push_kf (fs : List Addr) (h : Heap) (o : Obj) : Kf fs h (h.push o) := Kf.of_keeps fun _ _ e => Heap.get?_push_of_some _ e
theorem ItSrc.list {e : Expr} {ds : List V} (ok : FmOk g f n) (he : Ev g f ρ e (.ok (.list ds))) : ItSrc g f ρ e ds := fun σ s Q E S q => by
  refine he σ s _ _ S (fun v d h₁ t₁ ed k₁ r₁ => ?_) fun c e' h' tk ec => nomatch ec
  injection ed with ed; subst ed
  simp only [Rep] at r₁
  obtain ⟨a, vs, m, rfl, ha, rl, hl⟩ := r₁
  have hI : h₁.get? h₁.objs.size = none := none_of_ge (Nat.le_refl _)
  have hlist : ({ s with heap := h₁, toks := t₁ } : Shared).heap.IsList a vs.toArray := ⟨_, ha.1, rfl, m, rfl⟩
  have hne : a ≠ h₁.objs.size := fun z => by rw [← z, ha.1] at hI; cases hI
  refine wpAny_pyIter_list hlist ?_
  have W := Walks.list (prog := g.prog) (w := g.w) ok.hd h₁.objs.size a hne vs.toArray
  have hsz : vs.toArray.size = ds.length := by simp [RepL.length rl]
  rw [hsz] at W
  refine q h₁.objs.size h₁ _ t₁ _ _ _ k₁ (push_kf _ _ _) hI ?_ W ⟨⟨_, Heap.get?_push_size _ rfl, rfl, rfl⟩, Heap.IsList.at hlist fun o e => Heap.get?_push_of_some _ e⟩ (fun b hb => ?_) fun i v d hP hd' => ?_
  · rintro i h ⟨⟨o, ho, _⟩, _⟩; exact ⟨o, ho⟩
  · simp at hb
    rcases hb with rfl | rfl
    · exact .inl rfl
    · exact .inr ⟨ha.2, _, ha.1⟩
  · obtain ⟨v', e1, e2⟩ := rl.get hd'
    have hP' : vs[i]? = some v := by simpa using hP
    rw [e1] at hP'; injection hP' with hP'; subst hP'; exact e2
theorem ItSrc.tup {e : Expr} {ds : List V} (ok : FmOk g f n) (he : Ev g f ρ e (.ok (.tup ds))) : ItSrc g f ρ e ds := fun σ s Q E S q => by
  refine he σ s _ _ S (fun v d h₁ t₁ ed k₁ r₁ => ?_) fun c e' h' tk ec => nomatch ec
  injection ed with ed; subst ed
  simp only [Rep] at r₁
  obtain ⟨a, vs, m, rfl, ha, rl, hl⟩ := r₁
  have hI : h₁.get? h₁.objs.size = none := none_of_ge (Nat.le_refl _)
  have hlist : ({ s with heap := h₁, toks := t₁ } : Shared).heap.IsTuple a vs.toArray := ⟨_, ha.1, rfl, m, rfl⟩
  have hne : a ≠ h₁.objs.size := fun z => by rw [← z, ha.1] at hI; cases hI
  refine wpAny_pyIter_tuple hlist ?_
  have W := Walks.tuple (prog := g.prog) (w := g.w) ok.hd h₁.objs.size a hne vs.toArray
  have hsz : vs.toArray.size = ds.length := by simp [RepL.length rl]
  rw [hsz] at W
  refine q h₁.objs.size h₁ _ t₁ _ _ _ k₁ (push_kf _ _ _) hI ?_ W ⟨⟨_, Heap.get?_push_size _ rfl, rfl, rfl⟩, ⟨_, Heap.get?_push_of_some _ ha.1, rfl, m, rfl⟩⟩ (fun b hb => ?_) fun i v d hP hd' => ?_
  · rintro i h ⟨⟨o, ho, _⟩, _⟩; exact ⟨o, ho⟩
  · simp at hb
    rcases hb with rfl | rfl
    · exact .inl rfl
    · exact .inr ⟨ha.2, _, ha.1⟩
  · obtain ⟨v', e1, e2⟩ := rl.get hd'
    have hP' : vs[i]? = some v := by simpa using hP
    rw [e1] at hP'; injection hP' with hP'; subst hP'; exact e2
def vbytes (b : List UInt8) : List V := b.map fun c => .int (c.toNat : Int)
theorem ItSrc.bytes {e : Expr} {b : List UInt8} (ok : FmOk g f n) (he : Ev g f ρ e (.ok (.bytes b))) : ItSrc g f ρ e (vbytes b) := fun σ s Q E S q => by
  refine he σ s _ _ S (fun v d h₁ t₁ ed k₁ r₁ => ?_) fun c e' h' tk ec => nomatch ec
  injection ed with ed; subst ed
  simp only [Rep] at r₁
  obtain ⟨⟨t, rfl⟩, hl⟩ := r₁
  have hI : h₁.get? h₁.objs.size = none := none_of_ge (Nat.le_refl _)
  refine PySem.W.KBw.pyIter_bytes ?_
  have W := PySem.W.KBw.walks (prog := g.prog) (w := g.w) ok.hd h₁.objs.size b.toArray t
  have hsz : b.toArray.size = (vbytes b).length := by simp [vbytes]
  rw [hsz] at W
  refine q h₁.objs.size h₁ _ t₁ _ _ _ k₁ (push_kf _ _ _) hI ?_ W ?_ (fun b hb => ?_) fun i v d hP hd' => ?_
  · rintro i h ⟨o, ho, _⟩; exact ⟨o, ho⟩
  · exact ⟨_, Heap.get?_push_size _ rfl, rfl, rfl⟩
  · simp at hb; exact .inl hb
  · obtain ⟨c, u, e1, rfl⟩ := hP
    simp only [vbytes, List.getElem?_map] at hd'
    have e1' : b[i]? = some c := by simpa using e1
    rw [e1'] at hd'
    simp at hd'; subst hd'
    simp only [Rep]; exact ⟨_, rfl⟩
theorem call_raw {fv : Value} {first : List Value} {e : Expr} {es : List Expr} {pos : Pos} {σ : Sp} {ds : List V} {s : Shared} {Q : Value → Shared → Prop} {E : Value → Shared → Prop}
    (ok : FmOk g f n) (hk : Kept g fv) (S : St g f σ ρ s.heap) (ha : Evs g f ρ (e :: es) (.ok ds))
    (q : ∀ vs h' tk, Kf f.fs s.heap h' → RepL g.C h' (XOf f σ ρ) ds vs → wpAny (model g.prog g.w) f.A (call fv (first ++ vs)) Q E { s with heap := h', toks := tk })
    (hh : starEach (e :: es) f.env = (false, eval e f.env) :: starEach es f.env) (hplain : (backTo pos (starEach es f.env)).any (·.1) = false) :
    wpAny (model g.prog g.w) f.A (callWith pos fv first (backTo pos (starEach (e :: es) f.env)) []) Q E s := by
  refine callWith_of (P := fun h => g.K.In h) (by rw [hh]; show ((false || (backTo pos (starEach es f.env)).any (·.1)) || false) = false; rw [hplain]; rfl) (kept_looks hk) ?_
  have hpos := ha pos
  rw [hh] at hpos ⊢
  refine evalArgs_plain (x := eval e f.env) (rest := backTo pos (starEach es f.env)) ?_
  refine hpos σ s _ _ S (fun vs ds' h' tk ed k rr => ?_) fun c e' h' tk ec => nomatch ec
  injection ed with ed; subst ed
  have S' := S.mono ok k
  exact ⟨ok.G.X.keeps S'.cs.keep, q vs h' tk k rr⟩
theorem kept_type {T : String} : Kept g (.type T) := .inl fun _ e => nomatch e
theorem kept_builtin {T : String} : Kept g (.builtin T) := .inl fun _ e => nomatch e
def vrange (a : Int) (n : Nat) : List V := (List.range n).map fun i : Nat => V.int (a + (i : Int))
def vdown (a : Int) (n : Nat) : List V := (List.range n).map fun i : Nat => V.int (a - (i : Int))
theorem range_src {σ : Sp} {s : Shared} {h₁ : Heap} {t₁ : Nat} {a b c : Int} {t u v : Tok} {N : Nat} {items : List V} {Q : Value → Shared → Prop} {E : Value → Shared → Prop} (ok : FmOk g f n) (k₁ : Kf f.fs s.heap h₁)
    (hs : Builtin.Range.small a b c = true) (hN : Builtin.Range.rangeSize a b c = (N : Int)) (hl : items.length = N) (hit : ∀ (i : Nat) (d : V), items[i]? = some d → d = V.int (a + (i : Int) * c))
    (q : ∀ I h₁ h₂ tk fp P Stt, Kf f.fs s.heap h₁ → Kf f.fs h₁ h₂ → h₁.get? I = none → (∀ i h, Stt i h → ∃ o, h.get? I = some o) → Walks g.prog g.w f.A I fp [I] items.length P Stt → Stt 0 h₂ →
      (∀ b ∈ fp, b = I ∨ (¬ XOf f σ ρ b ∧ ∃ o, h₁.get? b = some o)) → (∀ i v d, P i v → items[i]? = some d → Rep g.C h₁ (XOf f σ ρ) d v) → Q (.ref I) { s with heap := h₂, toks := tk }) :
    wpAny (model g.prog g.w) f.A (pyIter (.ref h₁.objs.size)) Q E { s with heap := h₁.push { cls := .type "range", data := .fields #[.int a t, .int b u, .int c v] }, toks := t₁ } := by
  refine wpAny_pyIter_range (IsRange.new ..) hs ?_
  have hI : (h₁.push { cls := .type "range", data := .fields #[.int a t, .int b u, .int c v] }).get? (h₁.push { cls := .type "range", data := .fields #[.int a t, .int b u, .int c v] }).objs.size = none := none_of_ge (Nat.le_refl _)
  have W := Walks.range (prog := g.prog) (w := g.w) ok.hd (h₁.push { cls := .type "range", data := .fields #[.int a t, .int b u, .int c v] }).objs.size a c N
  rw [← hl] at W
  refine q _ _ _ t₁ _ _ _ (k₁.trans (push_kf _ _ _)) (push_kf _ _ _) hI (fun i h z => ⟨_, z⟩) W ?_ (fun b hb => .inl (by simpa using hb)) fun i v d hP hd => ?_
  · have e1 : (a + ((0 : Nat) : Int) * c) = a := by simp
    have e2 : ((items.length : Int) - ((0 : Nat) : Int)) = Builtin.Range.rangeSize a b c := by rw [hN, hl]; simp
    show IsRangeIter _ _ (a + ((0 : Nat) : Int) * c) ((items.length : Int) - ((0 : Nat) : Int)) c
    rw [e1, e2]
    exact Heap.get?_push_size _ rfl
  · obtain ⟨t, rfl⟩ := hP
    rw [hit i d hd]
    simp only [Rep]; exact ⟨_, rfl⟩
theorem ItSrc.range1 {e : Expr} {np pos : Pos} {a : Int} (ok : FmOk g f n) (hx : f.env.kindOf "range" = some .globalImplicit) (gv : GV g "range" (.type "range")) (he : Ev g f ρ e (.ok (.int a))) (h1 : -(2 ^ 62) ≤ a) (h2 : a < 2 ^ 62)
    (hh : starEach [e] f.env = [(false, eval e f.env)] := by rfl) : ItSrc g f ρ (.Call (.Name "range" np) [e] [] pos) (vrange 0 a.toNat) := fun σ s Q E S q => by
  refine wpAny_Call_ofName (gv f n np s _ _ ok hx S.cs ?_)
  refine call_raw (first := []) ok kept_type S (Evs.cons ok he Evs.nil hh) (fun vs h' tk k rr => ?_) hh rfl
  simp only [RepL, Rep] at rr
  obtain ⟨v, r, rfl, ⟨t, rfl⟩, rfl⟩ := rr
  refine call_range_1 ?_
  refine range_src (s := s) (h₁ := h') (σ := σ) (ρ := ρ) (N := a.toNat) ok k (small_one (by decide) (by decide) h1 h2) (by rw [rangeSize_one]; split <;> omega) (by simp [vrange]) (fun i d hd => ?_) q
  simp only [vrange, List.getElem?_map] at hd
  cases z : (List.range a.toNat)[i]? with
  | none => rw [z] at hd; cases hd
  | some j =>
    rw [z] at hd; simp at hd
    have : j = i := by
      have := List.getElem?_eq_some_iff.mp z
      obtain ⟨h, e⟩ := this
      simpa using e.symm
    subst this; rw [← hd]; simp
theorem ItSrc.range2 {e₁ e₂ : Expr} {np pos : Pos} {a b : Int} (ok : FmOk g f n) (hx : f.env.kindOf "range" = some .globalImplicit) (gv : GV g "range" (.type "range")) (he₁ : Ev g f ρ e₁ (.ok (.int a))) (he₂ : Ev g f ρ e₂ (.ok (.int b))) (h1 : -(2 ^ 62) ≤ a) (h2 : a < 2 ^ 62) (h3 : -(2 ^ 62) ≤ b) (h4 : b < 2 ^ 62)
    (hh : starEach [e₁, e₂] f.env = (false, eval e₁ f.env) :: starEach [e₂] f.env := by rfl) (hh' : starEach [e₂] f.env = [(false, eval e₂ f.env)] := by rfl) : ItSrc g f ρ (.Call (.Name "range" np) [e₁, e₂] [] pos) (vrange a (b - a).toNat) := fun σ s Q E S q => by
  refine wpAny_Call_ofName (gv f n np s _ _ ok hx S.cs ?_)
  refine call_raw (first := []) ok kept_type S (Evs.cons ok he₁ (Evs.cons ok he₂ Evs.nil hh') hh) (fun vs h' tk k rr => ?_) hh (by rw [hh']; rfl)
  simp only [RepL, Rep] at rr
  obtain ⟨v, r, rfl, ⟨t, rfl⟩, v', r', rfl, ⟨t', rfl⟩, rfl⟩ := rr
  refine call_range_2 ?_
  refine range_src (s := s) (h₁ := h') (σ := σ) (ρ := ρ) (N := (b - a).toNat) ok k (small_one h1 h2 h3 h4) (by rw [rangeSize_one]; split <;> omega) (by simp [vrange]) (fun i d hd => ?_) q
  simp only [vrange, List.getElem?_map] at hd
  cases z : (List.range (b - a).toNat)[i]? with
  | none => rw [z] at hd; cases hd
  | some j =>
    rw [z] at hd; simp at hd
    have : j = i := by
      have := List.getElem?_eq_some_iff.mp z
      obtain ⟨h, e⟩ := this
      simpa using e.symm
    subst this; rw [← hd]; simp
theorem ItSrc.down {e₁ e₂ e₃ : Expr} {np pos : Pos} {a b : Int} (ok : FmOk g f n) (hx : f.env.kindOf "range" = some .globalImplicit) (gv : GV g "range" (.type "range")) (he₁ : Ev g f ρ e₁ (.ok (.int a))) (he₂ : Ev g f ρ e₂ (.ok (.int b))) (he₃ : Ev g f ρ e₃ (.ok (.int (-1))))
    (h1 : -(2 ^ 62) ≤ a) (h2 : a < 2 ^ 62) (h3 : -(2 ^ 62) ≤ b) (h4 : b < 2 ^ 62)
    (hh : starEach [e₁, e₂, e₃] f.env = (false, eval e₁ f.env) :: starEach [e₂, e₃] f.env := by rfl) (hh' : starEach [e₂, e₃] f.env = (false, eval e₂ f.env) :: starEach [e₃] f.env := by rfl) (hh'' : starEach [e₃] f.env = [(false, eval e₃ f.env)] := by rfl) :
    ItSrc g f ρ (.Call (.Name "range" np) [e₁, e₂, e₃] [] pos) (vdown a (a - b).toNat) := fun σ s Q E S q => by
  refine wpAny_Call_ofName (gv f n np s _ _ ok hx S.cs ?_)
  refine call_raw (first := []) ok kept_type S (Evs.cons ok he₁ (Evs.cons ok he₂ (Evs.cons ok he₃ Evs.nil hh'') hh') hh) (fun vs h' tk k rr => ?_) hh (by rw [hh', hh'']; rfl)
  simp only [RepL, Rep] at rr
  obtain ⟨v, r, rfl, ⟨t, rfl⟩, v', r', rfl, ⟨t', rfl⟩, v'', r'', rfl, ⟨t'', rfl⟩, rfl⟩ := rr
  refine call_range_3 (by decide) ?_ (.inl (PyProof.noPylong_small (by decide)))
  refine range_src (s := s) (h₁ := h') (σ := σ) (ρ := ρ) (N := (a - b).toNat) ok k (small_down h1 h2 h3 h4) (by rw [rangeSize_downNat]) (by simp [vdown]) (fun i d hd => ?_) q
  simp only [vdown, List.getElem?_map] at hd
  cases z : (List.range (a - b).toNat)[i]? with
  | none => rw [z] at hd; cases hd
  | some j =>
    rw [z] at hd; simp at hd
    have : j = i := by
      have := List.getElem?_eq_some_iff.mp z
      obtain ⟨h, e⟩ := this
      simpa using e.symm
    subst this; rw [← hd]; congr 1; omega
end
section
variable {g : GI} {f : Fm} {n : Nat} {ρ : En}
theorem small_line {k : Nat} (h : k ≤ 1000) : k ≤ sizeLine := Nat.le_trans h (by unfold sizeLine; decide)
theorem push_repl {σ : Sp} {h : Heap} {o : Obj} {d : List V} {v : List Value} (r : RepL g.C h (XOf f σ ρ) d v) : RepL g.C (h.push o) (XOf f σ ρ) d v := r.mono (fun _ _ e _ => Heap.get?_push_of_some _ e) fun _ m => .inl m
theorem newSeq {T : String} {vs : List Value} {s : Shared} {Q : Value → Shared → Prop} {E : Value → Shared → Prop} {A : Around} (hl : vs.length ≤ sizeLine)
    (h : Q (.ref s.heap.objs.size) { s with heap := s.heap.push { cls := .type T, data := .seq vs.toArray } }) : wpAny (model g.prog g.w) A (newObj (.type T) (.seq vs.toArray)) Q E s :=
  wpAny_newObj_type h (by show vs.toArray.size ≤ sizeLine; rw [List.size_toArray]; exact hl)
theorem Ev.listD {es : List Expr} {pos : Pos} {ds : List V} (ok : FmOk g f n) (he : Evs g f ρ es (.ok ds)) (hl : ds.length ≤ 1000) : Ev g f ρ (.List es pos) (.ok (.list ds)) := fun σ s Q E S q ex => by
  refine List_ (he pos σ s _ _ S (fun vs ds' h₁ t₁ ed k r => ?_) fun c e' h' tk ec => nomatch ec)
  injection ed with ed; subst ed
  have hlen : vs.length ≤ sizeLine := by rw [RepL.length r]; exact small_line hl
  refine newSeq (s := { s with heap := h₁, toks := t₁ }) hlen (q _ _ _ t₁ rfl (k.trans (push_kf _ _ _)) ?_)
  simp only [Rep]
  exact ⟨_, vs, _, rfl, ⟨Heap.get?_push_size _ rfl, (S.mono ok k).fresh_off (none_of_ge (Nat.le_refl _))⟩, push_repl r, hlen⟩
theorem Ev.tupD {es : List Expr} {kk : Nat} {pos : Pos} {ds : List V} (ok : FmOk g f n) (he : Evs g f ρ es (.ok ds)) (hl : ds.length ≤ 1000) : Ev g f ρ (.Tuple es kk pos) (.ok (.tup ds)) := fun σ s Q E S q ex => by
  refine Tuple_ (he pos σ s _ _ S (fun vs ds' h₁ t₁ ed k r => ?_) fun c e' h' tk ec => nomatch ec)
  injection ed with ed; subst ed
  have hlen : vs.length ≤ sizeLine := by rw [RepL.length r]; exact small_line hl
  refine newSeq (s := { s with heap := h₁, toks := t₁ }) hlen (q _ _ _ t₁ rfl (k.trans (push_kf _ _ _)) ?_)
  simp only [Rep]
  exact ⟨_, vs, _, rfl, ⟨Heap.get?_push_size _ rfl, (S.mono ok k).fresh_off (none_of_ge (Nat.le_refl _))⟩, push_repl r, hlen⟩
theorem own_of {σ : Sp} {h h' : Heap} {a : Addr} {ds : List V} {vs : List Value} {m : Nat} (S : St g f σ ρ h) (k : Kf f.fs h h') (ha : h'.get? a = some (lobj vs m)) (hn : h.get? a = none) (r : RepL g.C h (XOf f σ ρ) ds vs) (hl : vs.length ≤ sizeLine) :
    VarOk g f h' (fun b => XOf f σ ρ b ∨ b = a) (fun _ => some (.ref a)) a "" (.li ds) :=
  ⟨rfl, vs, m, ha, r.mono (k.kx S.fsX) fun b hb => hb.elim .inl fun z => .inr (z ▸ hn), hl⟩
theorem EvO.listD {es : List Expr} {pos : Pos} {ds : List V} (ok : FmOk g f n) (he : Evs g f ρ es (.ok ds)) (hl : ds.length ≤ 1000) : EvO g f ρ (.List es pos) (.li ds) := fun σ s Q E S q => by
  refine List_ (he pos σ s _ _ S (fun vs ds' h₁ t₁ ed k r => ?_) fun c e' h' tk ec => nomatch ec)
  injection ed with ed; subst ed
  have hlen : vs.length ≤ sizeLine := by rw [RepL.length r]; exact small_line hl
  have hn : h₁.get? h₁.objs.size = none := none_of_ge (Nat.le_refl _)
  have hn0 : s.heap.get? h₁.objs.size = none := by
    cases z : s.heap.get? h₁.objs.size with
    | none => rfl
    | some o => obtain ⟨_, q⟩ := (k _ o z).2; rw [hn] at q; cases q
  refine newSeq (s := { s with heap := h₁, toks := t₁ }) hlen (q _ _ t₁ (k.trans (push_kf _ _ _)) hn0 ?_)
  exact own_of (S.mono ok k) (push_kf _ _ _) (Heap.get?_push_size _ rfl) hn r hlen
def vidx (len : Nat) (i : Int) : Nat := if i < 0 then (i + len).toNat else i.toNat
def TyOf : V → String
  | .list _ => "list"
  | .tup _ => "tuple"
  | .bytes _ => "bytes"
  | .int _ => "int"
  | _ => "bool"
theorem rep_type {h : Heap} {X : Addr → Prop} {d : V} {v : Value} {s : Shared} (hs : s.heap = h) (r : Rep g.C h X d v) (hT : TyOf d = "list" ∨ TyOf d = "tuple" ∨ TyOf d = "bytes") : s.TypeIs v (TyOf d) := by
  cases d with
  | list ds => simp only [Rep] at r; obtain ⟨a, vs, n, rfl, ha, _⟩ := r; exact ⟨_, hs ▸ ha.1, rfl⟩
  | tup ds => simp only [Rep] at r; obtain ⟨a, vs, n, rfl, ha, _⟩ := r; exact ⟨_, hs ▸ ha.1, rfl⟩
  | bytes b => simp only [Rep] at r; obtain ⟨⟨t, rfl⟩, _⟩ := r; exact typeIs_bytes _ _ _
  | none => simp [TyOf] at hT
  | bool _ => simp [TyOf] at hT
  | int _ => simp [TyOf] at hT
  | name _ => simp [TyOf] at hT
  | scr _ => simp [TyOf] at hT
theorem ty_getitem {d : V} (hT : TyOf d = "list" ∨ TyOf d = "tuple" ∨ TyOf d = "bytes") : ∃ id, typeLookup (.type (TyOf d)) "__getitem__" = pure (some (.builtin id)) := by
  rcases hT with e | e | e <;> rw [e]
  · exact ⟨_, slot_list_getitem.lookup⟩
  · exact ⟨_, slot_tuple_getitem.lookup⟩
  · exact ⟨_, FB.slot_bytes_getitem.lookup⟩
theorem Ev.sub {value slice : Expr} {pos : Pos} {a b : V} {r : Res} (ok : FmOk g f n) (ho : Ev g f ρ value (.ok a)) (hi : Ev g f ρ slice (.ok b)) (hT : TyOf a = "list" ∨ TyOf a = "tuple" ∨ TyOf a = "bytes") (hg : Op2 g n getItem a b r)
    (hs : ∀ o i, subscripted slice false o i = operate [o, i] (getItem o i) := by intro _ _; rfl) : Ev g f ρ (.Subscript value slice pos) r := fun σ s Q E S q ex => by
  refine Subscript_ (ho σ s _ _ S (fun v d h₁ t₁ e k₁ r₁ => ?_) fun c e' h' tk ec => nomatch ec)
  injection e with e; subst e
  refine hi σ _ _ _ (S.mono ok k₁) (fun u d h₂ t₂ e k₂ r₂ => ?_) fun c e' h' tk ec => nomatch ec
  injection e with e; subst e
  have rv := rmono S r₁ k₂
  obtain ⟨id, hl⟩ := ty_getitem hT
  refine tail_any (rep_type (s := { s with heap := h₂, toks := t₂ }) rfl rv hT) hl ?_ (hs v u)
  exact hg f ρ σ { s with heap := h₂, toks := t₂ } Q E v u ok (S.mono ok (k₁.trans k₂)) rv r₂ (fun v d h' tk e k r => q v d h' tk e ((k₁.trans k₂).trans k) r)
    fun c e' h' tk e fl => ex c e' h' tk e (fl.trans (k₁.trans k₂))
theorem Op2.itemList {ds : List V} {i : Int} {d : V} (hd : ds[vidx ds.length i]? = some d) (h1 : -(ds.length : Int) ≤ i) : Op2 g n getItem (.list ds) (.int i) (.ok d) := fun f ρ σ s Q E va vb ok S ra rb q ex => by
  simp only [Rep] at ra rb
  obtain ⟨a, vs, m, rfl, ha, rl, hl⟩ := ra
  obtain ⟨t, rfl⟩ := rb
  have hlist : s.heap.IsList a vs.toArray := ⟨_, ha.1, rfl, m, rfl⟩
  obtain ⟨v, ev, rv⟩ := rl.get hd
  have hlen : vs.length = ds.length := RepL.length rl
  have hb : ds.length ≤ 2 ^ 24 := by rw [← hlen]; exact hl
  have hi : vidx ds.length i < ds.length := (List.getElem?_eq_some_iff.mp hd).1
  unfold vidx at hi ev
  split at hi
  · rename_i hneg
    rw [if_pos hneg] at ev
    refine wpAny_getItem_list_neg hlist hneg (by simpa [hlen] using h1) (by omega) (x := v) (by simpa [hlen] using ev) ?_
    exact q v _ s.heap s.toks rfl (Kf.refl _ _) rv
  · rename_i hpos
    rw [if_neg hpos] at ev
    refine wpAny_getItem_list hlist (by omega) (by omega) (x := v) (by simpa using ev) ?_
    exact q v _ s.heap s.toks rfl (Kf.refl _ _) rv
theorem seqIdx {len : Nat} {i : Int} (hi : vidx len i < len) (h1 : -(len : Int) ≤ i) : seqIndex? i len = some (vidx len i) := by
  unfold vidx at hi ⊢
  unfold seqIndex?
  by_cases hneg : i < 0
  · simp only [if_pos hneg] at hi ⊢
    rw [if_pos (by simp; omega)]
  · simp only [if_neg hneg] at hi ⊢
    rw [if_pos (by simp; omega)]
theorem Op2.itemTup {ds : List V} {i : Int} {d : V} (hd : ds[vidx ds.length i]? = some d) (h1 : -(ds.length : Int) ≤ i) : Op2 g n getItem (.tup ds) (.int i) (.ok d) := fun f ρ σ s Q E va vb ok S ra rb q ex => by
  simp only [Rep] at ra rb
  obtain ⟨a, vs, m, rfl, ha, rl, hl⟩ := ra
  obtain ⟨t, rfl⟩ := rb
  have hlist : IsTup s.heap a vs.toArray := ⟨_, ha.1, rfl, m, rfl⟩
  obtain ⟨v, ev, rv⟩ := rl.get hd
  have hlen : vs.length = ds.length := RepL.length rl
  have hb : ds.length ≤ 2 ^ 24 := by rw [← hlen]; exact hl
  have hi : vidx ds.length i < ds.length := (List.getElem?_eq_some_iff.mp hd).1
  refine getItem_tuple hlist (j := vidx ds.length i) (x := v) (by unfold vidx at hi; split at hi <;> omega) (by unfold vidx at hi; split at hi <;> omega) ?_ (by simpa using ev) ?_
  · rw [List.size_toArray, hlen]; exact seqIdx hi h1
  · exact q v _ s.heap s.toks rfl (Kf.refl _ _) rv
theorem Op2.itemBytes {b : List UInt8} {i : Int} {c : UInt8} (hd : b[vidx b.length i]? = some c) (h1 : -(b.length : Int) ≤ i) : Op2 g n getItem (.bytes b) (.int i) (.ok (.int (c.toNat : Int))) := fun f ρ σ s Q E va vb ok S ra rb q ex => by
  simp only [Rep] at ra rb
  obtain ⟨⟨t, rfl⟩, hl⟩ := ra
  obtain ⟨u, rfl⟩ := rb
  have hi : vidx b.length i < b.length := (List.getElem?_eq_some_iff.mp hd).1
  have hb : b.length ≤ 2 ^ 24 := hl
  refine PySem.getItem_gives (typeIs_bytes s _ t) (by decide) FB.slot_bytes_getitem FB.entry_bytes_getitem (FB.args_bytes_getitem_2 _ _) (gives_bytes_getitem _ i t u c ?_ ?_) (q _ _ s.heap _ rfl (Kf.refl _ _) (by simp only [Rep]; exact ⟨_, rfl⟩))
  · simp only [Builtin.Bytes.fitsIndex, Bool.and_eq_true, decide_eq_true_eq]; unfold vidx at hi; split at hi <;> omega
  · rw [List.size_toArray, seqIdx hi h1]; simpa using hd
def clo (n : Nat) : Option Int → Nat
  | none => 0
  | some i => clipAt n i
def chi (n : Nat) : Option Int → Nat
  | none => n
  | some i => clipAt n i
def slc {α : Type} (l : List α) (lo hi : Option Int) : List α := (l.drop (clo l.length lo)).take (chi l.length hi - clo l.length lo)
theorem clip_nn (n m : Nat) : clipAt n (m : Int) = min m n := by
  unfold clipAt
  rw [if_neg (Int.not_lt.mpr (Int.natCast_nonneg m)), Int.max_eq_right (Int.le_min.mpr ⟨Int.natCast_nonneg m, Int.natCast_nonneg n⟩)]
  rcases Nat.le_total m n with h | h
  · rw [Int.min_eq_left (Int.ofNat_le.mpr h), Int.toNat_natCast, Nat.min_eq_left h]
  · rw [Int.min_eq_right (Int.ofNat_le.mpr h), Int.toNat_natCast, Nat.min_eq_right h]
theorem clip_ng (n k : Nat) (h : 0 < k) : clipAt n (-(k : Int)) = n - k := by
  unfold clipAt
  rw [if_pos (Int.neg_neg_of_pos (Int.natCast_pos.mpr h)), Int.add_comm, ← Int.sub_eq_add_neg, Int.min_eq_left (Int.sub_le_self _ (Int.natCast_nonneg k))]
  rcases Nat.le_total k n with hk | hk
  · rw [← Int.ofNat_sub hk, Int.max_eq_right (Int.natCast_nonneg _), Int.toNat_natCast]
  · rw [Int.max_eq_left (Int.sub_nonpos_of_le (Int.ofNat_le.mpr hk)), Nat.sub_eq_zero_of_le hk]; rfl
theorem slc_length_le {α : Type} (l : List α) (lo hi : Option Int) : (slc l lo hi).length ≤ l.length := by
  unfold slc
  refine Nat.le_trans (List.length_take_le' _ _) ?_
  rw [List.length_drop]; exact Nat.sub_le _ _
theorem vidx_neg1 (n : Nat) : vidx n (-1) = n - 1 := by
  unfold vidx; rw [if_pos (by decide)]
  exact (congrArg Int.toNat (Int.add_comm _ _)).trans (Int.toNat_sub n 1)
theorem RepL.slc {h : Heap} {X : Addr → Prop} {ds : List V} {vs : List Value} (r : RepL g.C h X ds vs) (lo hi : Option Int) : RepL g.C h X (Mine.slc ds lo hi) (Mine.slc vs lo hi) := by
  unfold Mine.slc
  rw [RepL.length r]
  exact (r.drop _).take _
theorem pick_slc (vs : List Value) (lo hi : Option Int) : slicePick vs.toArray lo hi none = (slc vs lo hi).toArray := by
  rw [slicePick_plain]
  unfold slc
  cases lo <;> cases hi <;> rfl
def EvP (g : GI) (f : Fm) (ρ : En) (e : Option Expr) (i : Option Int) : Prop := match e with
  | none => i = none
  | some e => ∃ k, i = some k ∧ Ev g f ρ e (.ok (.int k))
theorem EvP.no : EvP g f ρ none none := rfl
theorem EvP.at {e : Expr} {k : Int} (h : Ev g f ρ e (.ok (.int k))) : EvP g f ρ (some e) (some k) := ⟨k, rfl, h⟩
theorem evalP {e : Option Expr} {i : Option Int} {σ : Sp} {s : Shared} {Q : Value → Shared → Prop} {E : Value → Shared → Prop} (he : EvP g f ρ e i) (S : St g f σ ρ s.heap)
    (q : ∀ v h' tk, IsPart v i → Kf f.fs s.heap h' → Q v { s with heap := h', toks := tk }) : wpAny (model g.prog g.w) f.A (evalPart e f.env) Q E s := by
  cases e with
  | none => cases he; rw [evalPart_none]; exact wpAny_pure (q .none s.heap s.toks .none (Kf.refl _ _))
  | some e =>
    obtain ⟨k, rfl, h⟩ := he
    rw [evalPart_some]
    refine h σ s _ _ S (fun v d h' tk ed kk r => ?_) fun c e' h' tk ec => nomatch ec
    injection ed with ed; subst ed
    simp only [Rep] at r; obtain ⟨t, rfl⟩ := r
    exact q _ h' tk (.int k t) kk
theorem sub_slice {value : Expr} {lower upper : Option Expr} {p pos : Pos} {lo hi : Option Int} {a : V} {σ : Sp} {s : Shared} {Q : Value → Shared → Prop} {E : Value → Shared → Prop} (ok : FmOk g f n) (S : St g f σ ρ s.heap) (ho : Ev g f ρ value (.ok a)) (hl : EvP g f ρ lower lo) (hu : EvP g f ρ upper hi)
    (hT : TyOf a = "list" ∨ TyOf a = "tuple" ∨ TyOf a = "bytes")
    (q : ∀ v h' tk l u sl, Kf f.fs s.heap h' → Rep g.C h' (XOf f σ ρ) a v → h'.IsSliceOf sl l u .none → IsPart l lo → IsPart u hi → wpAny (model g.prog g.w) f.A (getItem v (.ref sl)) Q E { s with heap := h', toks := tk }) :
    wpAny (model g.prog g.w) f.A (eval (.Subscript value (.Slice lower upper none p) pos) f.env) Q E s := by
  refine Subscript_ (ho σ s _ _ S (fun v d h₁ t₁ e k₁ r₁ => ?_) fun c e' h' tk ec => nomatch ec)
  injection e with e; subst e
  refine wpAny_Slice (evalP hl (S.mono ok k₁) fun l h₂ t₂ pl k₂ => evalP (s := { s with heap := h₂, toks := t₂ }) hu (S.mono ok (k₁.trans k₂)) fun u h₃ t₃ pu k₃ => ?_)
  rw [evalPart_none]
  refine wpAny_pure ?_
  have k := k₂.trans (k₃.trans (push_kf f.fs h₃ { cls := .type "slice", data := .fields #[l, u, .none] }))
  have rv := rmono S r₁ k
  obtain ⟨id, hli⟩ := ty_getitem hT
  exact tail_any (rep_type (s := { s with heap := h₃.push { cls := .type "slice", data := .fields #[l, u, .none] }, toks := t₃ }) rfl rv hT) hli (q v _ t₃ l u _ (k₁.trans k) rv (Heap.IsSliceOf.new _ _ _ _) pl pu) rfl
theorem Ev.sliceList {value : Expr} {lower upper : Option Expr} {p pos : Pos} {lo hi : Option Int} {ds : List V} (ok : FmOk g f n) (ho : Ev g f ρ value (.ok (.list ds))) (hl : EvP g f ρ lower lo) (hu : EvP g f ρ upper hi) :
    Ev g f ρ (.Subscript value (.Slice lower upper none p) pos) (.ok (.list (slc ds lo hi))) := fun σ s Q E S q ex => by
  refine sub_slice ok S ho hl hu (.inl rfl) fun v h' tk l u sl k r hs pl pu => ?_
  simp only [Rep] at r
  obtain ⟨a, vs, m, rfl, ha, rl, hlen⟩ := r
  have hle : (slc vs lo hi).length ≤ sizeLine := Nat.le_trans (slc_length_le _ _ _) hlen
  refine wpAny_getItem_list_slice (s := { s with heap := h', toks := tk }) (l := a) (items := vs.toArray) ⟨_, ha.1, rfl, m, rfl⟩ hs pl pu .none (by simp) ?_ (by simpa using hlen)
  rw [pick_slc]
  refine q _ _ _ tk rfl (k.trans (push_kf _ _ _)) ?_
  simp only [Rep]
  exact ⟨_, slc vs lo hi, _, rfl, ⟨Heap.get?_push_size _ rfl, (S.mono ok k).fresh_off (none_of_ge (Nat.le_refl _))⟩, push_repl (rl.slc lo hi), hle⟩
theorem Ev.sliceBytes {value : Expr} {lower upper : Option Expr} {p pos : Pos} {lo hi : Option Int} {b : List UInt8} (ok : FmOk g f n) (ho : Ev g f ρ value (.ok (.bytes b))) (hl : EvP g f ρ lower lo) (hu : EvP g f ρ upper hi) :
    Ev g f ρ (.Subscript value (.Slice lower upper none p) pos) (.ok (.bytes (slc b lo hi))) := fun σ s Q E S q ex => by
  refine sub_slice ok S ho hl hu (.inr (.inr rfl)) fun v h' tk l u sl k r hs pl pu => ?_
  simp only [Rep] at r
  obtain ⟨⟨t, rfl⟩, hlen⟩ := r
  have hpick : KBy.picked b.toArray lo hi = (slc b lo hi).toArray := by
    rw [KBc.picked_eq]
    unfold slc
    cases lo <;> cases hi <;> simp [clo, chi]
  refine getItem_meets (s := { s with heap := h', toks := tk }) (typeIs_bytes _ _ _) (by decide) FB.slot_bytes_getitem FB.entry_bytes_getitem (FB.args_bytes_getitem_2 _ _) (KBc.meets_slice2 b.toArray t sl pl pu)
    ⟨hs, Nat.le_trans (KBc.size_picked_le b.toArray lo hi) (by simpa using hlen), fun t' k' => ?_⟩
  rw [hpick]
  refine q _ _ h' _ rfl k ?_
  simp only [Rep]
  exact ⟨⟨_, rfl⟩, Nat.le_trans (slc_length_le _ _ _) hlen⟩
end
section
variable {prog : Program} {w : World} {A : Around} {E : Value → Shared → Prop} {s : Shared}
theorem part_index {v : Value} {i : Option Int} {Q : Option Int → Shared → Prop} (hv : IsPart v i) (h : Q i s) : wpAny (model prog w) A (Builtin.Slice.slicePartIndex v) Q E s := by
  cases hv with
  | none => exact slicePart_none h
  | int i t => exact slicePart_int h
theorem adj1 (n : Nat) (i : Int) : (if i < 0 then max (i + n) 0 else min i n) = ((clipAt n i : Nat) : Int) := by
  rw [clipAt_cast]
  by_cases h : i < 0
  · rw [if_pos h, if_pos h, Int.min_eq_left (Int.le_trans (Int.add_le_add_right (Int.le_of_lt h) n) (Int.le_of_eq (Int.zero_add _))), Int.max_comm]
  · rw [if_neg h, if_neg h, Int.max_eq_right (Int.le_min.mpr ⟨Int.not_lt.mp h, Int.natCast_nonneg n⟩)]
theorem adjust_gen (lo hi : Option Int) (n : Nat) : Builtin.Slice.sliceAdjust lo hi 1 (n : Int) = ((clo n lo : Int), (chi n hi : Int)) := by
  unfold Builtin.Slice.sliceAdjust
  have h1 : ¬ ((1 : Int) < 0) := by omega
  simp only [h1, if_false]
  congr 1
  · cases lo with
    | none => rfl
    | some i => exact adj1 n i
  · cases hi with
    | none => rfl
    | some i => exact adj1 n i
theorem places_gen (a b : Nat) : Builtin.Slice.slicePlaces (a : Int) (b : Int) 1 = b - a := by
  unfold Builtin.Slice.slicePlaces
  have h1 : (1 : Int) > 0 := by omega
  simp only [h1, if_true, Int.ediv_one]
  split
  · rw [Int.sub_add_cancel]; exact Int.toNat_sub b a
  · rename_i h
    exact (Nat.sub_eq_zero_of_le (Nat.le_of_not_lt fun e => h (Int.ofNat_lt.mpr e))).symm
theorem applied_gen {sl : Addr} {l u : Value} {lo hi : Option Int} {n : Nat} {Q : Int × Int × Nat → Shared → Prop} (hs : s.heap.IsSliceOf sl l u .none) (pl : IsPart l lo) (pu : IsPart u hi) (h : Q ((clo n lo : Int), 1, chi n hi - clo n lo) s) :
    wpAny (model prog w) A (Builtin.Slice.sliceApplied (.ref sl) (pure (n : Int))) Q E s := by
  obtain ⟨os, hos, hcs, hds⟩ := id hs
  unfold Builtin.Slice.sliceApplied Builtin.Slice.sliceFields
  refine wpAny_bind (wpAny_bind (wpAny_field hos hds (x := l) rfl (wpAny_bind (wpAny_field hos hds (x := u) rfl (wpAny_bind (wpAny_field hos hds (x := .none) rfl (wpAny_pure ?_)))))))
  refine wpAny_bind (slicePart_none ?_)
  show wpAny _ _ (if ((1 : Int) == 0) = true then _ else _) _ _ s
  rw [if_neg (by decide)]
  refine wpAny_bind (part_index pl (wpAny_bind (part_index pu (wpAny_bind (wpAny_pure ?_)))))
  show wpAny _ _ (match Builtin.Slice.sliceAdjust lo hi 1 (n : Int) with | (lo, hi) => pure (lo, (1 : Int), Builtin.Slice.slicePlaces lo hi 1)) _ _ s
  rw [adjust_gen]
  show wpAny _ _ (pure ((clo n lo : Int), (1 : Int), Builtin.Slice.slicePlaces (clo n lo : Int) (chi n hi : Int) 1)) _ _ s
  rw [places_gen]
  exact wpAny_pure h
theorem pick_gen (xs : List Value) (lo hi : Option Int) : ((List.range (chi xs.length hi - clo xs.length lo)).filterMap fun (k : Nat) => xs.toArray[((clo xs.length lo : Int) + (k : Int) * 1).toNat]?).toArray = (slc xs lo hi).toArray := by
  have e : (fun (k : Nat) => xs.toArray[((clo xs.length lo : Int) + (k : Int) * 1).toNat]?) = fun k => xs.toArray[clo xs.length lo + k]? := by
    funext k
    have : ((clo xs.length lo : Int) + (k : Int) * 1).toNat = clo xs.length lo + k := by omega
    rw [this]
  rw [e]
  have := pick_run xs.toArray (clo xs.length lo) (chi xs.length hi - clo xs.length lo)
  rw [List.filterMap_map] at this
  have e2 : ((fun x => xs.toArray[x]?) ∘ fun x => clo xs.length lo + x) = fun k => xs.toArray[clo xs.length lo + k]? := rfl
  rw [e2] at this
  rw [this]; rfl
theorem getItem_tup_slice {t sl : Addr} {xs : List Value} {l u : Value} {lo hi : Option Int} {Q : Value → Shared → Prop} (ht : IsTup s.heap t xs.toArray) (hs : s.heap.IsSliceOf sl l u .none) (pl : IsPart l lo) (pu : IsPart u hi) (hsz : xs.length ≤ sizeLine)
    (h : Q (.ref s.heap.objs.size) { s with heap := s.heap.push { cls := .type "tuple", data := .seq (slc xs lo hi).toArray } })
    (hw : slc xs lo hi = xs → Q (.ref t) s) : wpAny (model prog w) A (getItem (.ref t) (.ref sl)) Q E s := by
  have hok : sizeOk (.seq (slc xs lo hi).toArray) := by
    show (slc xs lo hi).toArray.size ≤ sizeLine
    rw [List.size_toArray]
    exact Nat.le_trans (slc_length_le _ _ _) hsz
  obtain ⟨os, hos, hcs, hds⟩ := id hs
  have hTs : s.TypeIs (.ref sl) "slice" := ⟨os, hos, hcs⟩
  unfold getItem
  try with_reducible refine wpAny_holding ?_
  first | refine wpAny_bind (wpAny_pure ?_) | skip
  refine wpAny_bind (wpAny_sequenceKey ht.typeIs (by decide) ?_)
  refine wpAny_bind (wpAny_callSpecial?_slot (name := Str.ofString "__getitem__") ht.typeIs slot_tuple_getitem
    (wpAny_call_entry slot_tuple_getitem ht.typeIs entry_tuple_getitem ?_ (args_tuple_getitem _ _)))
  show wpAny _ _ (Builtin.Tuple.tupleItemsOf (.ref t) >>= _) _ _ s
  refine wpAny_bind (tupleItemsOf_ ht ?_)
  refine wpAny_bind (wpAny_typeOf hTs ?_)
  rw [if_pos (by decide)]
  refine wpAny_bind (applied_gen (n := xs.length) (by exact hs) pl pu ?_)
  show wpAny _ _ (if ((clo xs.length lo : Int) == 0 && (1 : Int) == 1 && (chi xs.length hi - clo xs.length lo) == xs.length) = true then _ else _) _ _ s
  by_cases hc : ((clo xs.length lo : Int) == 0 && (1 : Int) == 1 && (chi xs.length hi - clo xs.length lo) == xs.length) = true
  · rw [if_pos hc]
    have hwh : slc xs lo hi = xs := by
      simp only [Bool.and_eq_true, beq_iff_eq] at hc
      obtain ⟨⟨h1, _⟩, h2⟩ := hc
      have h3 : clo xs.length lo = 0 := by omega
      unfold slc
      rw [h2, h3]
      simp
    refine wpAny_bind (m := Builtin.Tuple.tupleIsExact _) (wpAny_bind (wpAny_typeOf ht.typeIs (wpAny_pure ?_)))
    rw [if_pos (by decide)]
    exact wpAny_bind (wpAny_rule (wpAny_pure ⟨_, rfl, wpAny_pure (hw hwh)⟩))
  · rw [if_neg hc, pick_gen xs]
    first
      | exact wpAny_bind (m := Builtin.Tuple.tupleExact _) (wpAny_newObj_type (wpAny_pure ⟨_, rfl, wpAny_pure h⟩) hok)
      | exact wpAny_bind (m := Builtin.Tuple.tupleExact _) (wpAny_newObj_type (wpAny_bind (wpAny_pure (wpAny_pure ⟨_, rfl, wpAny_pure h⟩))) hok)
      | exact wpAny_bind (wpAny_bind (m := Builtin.Tuple.tupleExact _) (wpAny_newObj_type (wpAny_pure (wpAny_pure ⟨_, rfl, wpAny_pure h⟩)) hok))
end
section
variable {g : GI} {f : Fm} {n : Nat} {ρ : En}
theorem Ev.sliceTup {value : Expr} {lower upper : Option Expr} {p pos : Pos} {lo hi : Option Int} {ds : List V} (ok : FmOk g f n) (ho : Ev g f ρ value (.ok (.tup ds))) (hl : EvP g f ρ lower lo) (hu : EvP g f ρ upper hi) :
    Ev g f ρ (.Subscript value (.Slice lower upper none p) pos) (.ok (.tup (slc ds lo hi))) := fun σ s Q E S q ex => by
  refine sub_slice ok S ho hl hu (.inr (.inl rfl)) fun v h' tk l u sl k r hs pl pu => ?_
  have r' := r
  simp only [Rep] at r
  obtain ⟨a, vs, m, rfl, ha, rl, hlen⟩ := r
  have hle : (slc vs lo hi).length ≤ sizeLine := Nat.le_trans (slc_length_le _ _ _) hlen
  refine getItem_tup_slice (s := { s with heap := h', toks := tk }) (t := a) (xs := vs) ⟨_, ha.1, rfl, m, rfl⟩ hs pl pu hlen ?_ fun hw => ?_
  · refine q _ _ _ tk rfl (k.trans (push_kf _ _ _)) ?_
    simp only [Rep]
    exact ⟨_, slc vs lo hi, _, rfl, ⟨Heap.get?_push_size _ rfl, (S.mono ok k).fresh_off (none_of_ge (Nat.le_refl _))⟩, push_repl (rl.slc lo hi), hle⟩
  · refine q _ _ h' tk rfl k ?_
    have hlen' : vs.length = ds.length := RepL.length rl
    have rl' := rl.slc lo hi
    rw [hw] at rl'
    simp only [Rep]
    exact ⟨a, vs, m, rfl, ha, rl', hlen⟩
end
section
variable {g : GI} {f : Fm} {n : Nat} {ρ : En}
theorem own_set {i : Nat} {b b' : B} (hb : ρ[i]? = some (some b)) (ho : b.owns = true) (ho' : b'.owns = true) (j : Nat) : Own (ρ.set i (some b')) j ↔ Own ρ j := by
  constructor
  · rintro ⟨c, hc, oc⟩
    rcases set_get hc with ⟨e, _⟩ | ⟨_, e'⟩
    · exact ⟨b, e ▸ hb, ho⟩
    · exact ⟨c, e', oc⟩
  · rintro ⟨c, hc, oc⟩
    by_cases e : j = i
    · subst e
      refine ⟨b', ?_, ho'⟩
      rw [List.getElem?_set_self]
      exact (List.getElem?_eq_some_iff.mp hb).1
    · exact ⟨c, by rw [List.getElem?_set_ne (Ne.symm e)]; exact hc, oc⟩
theorem X_set {σ : Sp} {i : Nat} {b b' : B} (hb : ρ[i]? = some (some b)) (ho : b.owns = true) (ho' : b'.owns = true) (a : Addr) : XOf f σ (ρ.set i (some b')) a ↔ XOf f σ ρ a := by
  unfold XOf OwnA
  simp only [own_set hb ho ho']
theorem St.turn {σ : Sp} {h h' : Heap} {i : Nat} {b b' : B} (ok : FmOk g f n) (S : St g f σ ρ h) (hb : ρ[i]? = some (some b)) (ho : b.owns = true) (ho' : b'.owns = true) (hs : Heap.SameBut (σ.α i) h h')
    (hv : ∀ m x a, VarOk g f h (XOf f σ ρ) m a x b → a = σ.α i → VarOk g f h' (XOf f σ (ρ.set i (some b'))) m a x b') :
    St g f σ (ρ.set i (some b')) h' ∧ Trn f σ ρ h σ (ρ.set i (some b')) h' := by
  have hOwn : Own ρ i := ⟨b, hb, ho⟩
  have fr := S.fresh i hOwn
  have aX : XOf f σ ρ (σ.α i) := .inr (.inr ⟨i, hOwn, rfl⟩)
  have off := own_off ok fr.1 fr.2.1
  obtain ⟨oa, hoa⟩ := S.ownEx ⟨i, hOwn, rfl⟩
  have kb : ∀ c o, c ≠ σ.α i → h.get? c = some o → h'.get? c = some o := fun c o hc e => (hs.2 c hc).trans e
  have exI : ∃ o, h'.get? (σ.α i) = some o := by
    obtain ⟨m, hns, hvar⟩ := S.ex
    have hl : i < f.nm.length := Nat.lt_of_lt_of_le (List.getElem?_eq_some_iff.mp hb).1 S.len
    exact (hv m _ _ (hvar i _ b (List.getElem?_eq_getElem hl) hb) rfl).there ho'
  refine ⟨?_, ⟨fun c o e n1 n2 => kb c o (fun z => n2 (z ▸ ⟨i, hOwn, rfl⟩)) e, fun c o e m => ⟨o, kb c o (fun z => off (z ▸ m)) e⟩, fun c hc => .inl ?_, rfl⟩⟩
  rotate_left
  · obtain ⟨j, hj, e⟩ := hc; exact ⟨j, (own_set hb ho ho' j).mp hj, e⟩
  obtain ⟨⟨m, ⟨oL, es, ep, hL, rest⟩, hvar⟩, c, kE, nd, frs, len, Yfs, yex, offY, Y0⟩ := S
  refine ⟨⟨m, ⟨oL, es, ep, kb _ _ (fun z => fr.2.1 z.symm) hL, rest⟩, fun j x d hx hd => ?_⟩, ?_, ?_, fun j l hj hl => nd j l ((own_set hb ho ho' j).mp hj) ((own_set hb ho ho' l).mp hl), fun j hj => frs j ((own_set hb ho ho' j).mp hj), by rw [List.length_set]; exact len, Yfs, fun d hd => ?_, fun j hj => offY j ((own_set hb ho ho' j).mp hj), Y0⟩
  · rcases set_get hd with ⟨e, e'⟩ | ⟨e, e'⟩
    · subst e; injection e' with e'; subst e'
      exact hv m x _ (hvar j x b hx hb) rfl
    · refine (hvar j x d hx e').step (fun d o ed nx => kb d o (fun z => nx (z ▸ aX)) ed) (fun d m => .inl ((X_set hb ho ho' d).mp m)) rfl fun od o eo => kb _ o (fun z => e (nd j i ⟨d, e', od⟩ hOwn z)) eo
  · refine ⟨fun d o e => kb d o (fun z => by rw [z, fr.2.2] at e; cases e) (c.keep d o e), ?_⟩
    have hf := c.ff
    have no : ∀ b ∈ fsOf f.outer, b ≠ σ.α i := fun b hb z => off (by rw [← z, Fm.fs_eq]; exact .tail _ hb)
    generalize f.outer = l at hf no
    clear c kE nd frs len Yfs yex offY Y0 hvar
    induction l with
    | nil => trivial
    | cons env r ih =>
      obtain ⟨a1, ⟨L', o, q1, q2, q3, q4⟩, a3⟩ := hf
      refine ⟨a1, ⟨L', o, q1, q2, kb _ _ (no L' (by unfold fsOf; rw [List.filterMap_cons, q1]; exact .head _)) q3, q4⟩, ih a3 fun b hb => no b (by unfold fsOf at hb ⊢; rw [List.filterMap_cons, q1]; exact .tail _ hb)⟩
  · intro d o e
    obtain ⟨p, sl, q⟩ := kE d o e
    have hd : d ≠ σ.α i := fun z => by rw [z, fr.1] at e; cases e
    exact ⟨fun nb => kb d o hd (p nb), sl, kb d _ hd q⟩
  · by_cases z : d = σ.α i
    · rw [z]; exact exI
    · obtain ⟨o, e⟩ := yex d hd; exact ⟨o, kb d o z e⟩
theorem Ex.assignO {x : Str} {xp pos : Pos} {e : Expr} {rest : List Stmt} {b : B} {O : Out → Prop} (ok : FmOk g f n) (i : Nat) (hx : f.xs[i]? = some x) (he : EvO g f ρ e b) (hob : b.obj = true) (h : Ex g f (ρ.set i (some b)) rest O)
    (hs : swapsWith e (some (.Name x xp)) pos.line f.env = pure false := by rfl) : Ex g f ρ (.Assign [.Name x xp] e pos :: rest) O := fun σ s Q E S q ex => by
  have hb : b.owns = true := B.obj_owns hob
  refine wpAny_execs_cons (wpAny_Assign_Name (he σ s _ _ S fun a h' tk k hn hv => ?_) hs)
  let σ' : Sp := ⟨σ.Y, fun j => if j = i then a else σ.α j⟩
  have hσi : σ'.α i = a := by simp [σ']
  have e1 : f.hE.get? a = none := by
    cases z : f.hE.get? a with
    | none => rfl
    | some o => obtain ⟨_, q⟩ := (S.kE a o z).2; rw [hn] at q; cases q
  have e2 : g.H0.get? a = none := by
    cases z : g.H0.get? a with
    | none => rfl
    | some o => have := S.cs.keep a o z; rw [hn] at this; cases this
  have e3 : a ≠ f.L := fun z => by
    obtain ⟨_, ⟨oL, _, _, hL, _⟩, _⟩ := S.ex; rw [← z, hn] at hL; cases hL
  refine store_any (s := { s with heap := h', toks := tk }) (b := b) (σ' := σ') ok S k hx (fun j hj => by simp [σ', hj]) rfl (fun _ => by rw [hσi]; exact ⟨⟨e1, e3, e2⟩, hn⟩) (fun h'' m kk em => ?_) fun h'' S' T' => Ex.after (σ := σ) (ρ := ρ) (s := s) h S' T' q ex
  rw [hσi]
  have hX : ∀ c, XOf f σ' (ρ.set i (some b)) c → (XOf f σ ρ c ∨ c = a) ∨ h'.get? c = none := fun c hc => by
    rcases hc with hc | hc | ⟨j, ⟨b', hb', ho'⟩, hc⟩
    · exact .inl (.inl (.inl hc))
    · exact .inl (.inl (.inr (.inl hc)))
    · rcases set_get hb' with ⟨e, _⟩ | ⟨e, e'⟩
      · subst e; exact .inl (.inr (hc.trans hσi))
      · refine .inl (.inl (.inr (.inr ⟨j, ⟨b', e', ho'⟩, ?_⟩))); rw [hc]; simp [σ', e]
  have kx : KX (fun c => XOf f σ ρ c ∨ c = a) h' h'' := fun c o ec nc => kk c o (fun z => nc (.inl (.inr (.inl z)))) ec
  have := hv.step (m' := fun _ => some (.ref a)) kx hX rfl fun _ o eo => kk a o e3 eo
  cases b with
  | sh d => cases hb
  | bo d => cases hb
  | ce d => cases hob
  | bc d => cases hob
  | me d => cases hob
  | li ds => obtain ⟨_, r⟩ := this; exact ⟨em, r⟩
  | ba bs => obtain ⟨_, r⟩ := this; exact ⟨em, r⟩
theorem Ex.freeze {i : Nat} {ds : List V} {b : List Stmt} {O : Out → Prop} (ok : FmOk g f n) (hb : ρ[i]? = some (some (.li ds))) (h : Ex g f (ρ.set i (some (.sh (.list ds)))) b O) : Ex g f ρ b O := fun σ s Q E S q ex => by
  have hi : Own ρ i := ⟨_, hb, rfl⟩
  have sub : ∀ j, Own (ρ.set i (some (.sh (.list ds)))) j → Own ρ j ∧ j ≠ i := fun j ⟨c, hc, oc⟩ => by
    rcases set_get hc with ⟨_, e'⟩ | ⟨e, e'⟩
    · injection e' with e'; subst e'; cases oc
    · exact ⟨⟨c, e', oc⟩, e⟩
  have subX : ∀ a, XOf f σ (ρ.set i (some (.sh (.list ds)))) a → XOf f σ ρ a := fun a ha => by
    rcases ha with ha | ha | ⟨j, hj, ha⟩
    · exact .inl ha
    · exact .inr (.inl ha)
    · exact .inr (.inr ⟨j, (sub j hj).1, ha⟩)
  refine Ex.after (σ := σ) (ρ := ρ) (s := s) (σ' := σ) h ?_ ⟨fun _ _ e _ _ => e, fun _ o e _ => ⟨o, e⟩, fun a ⟨j, hj, ha⟩ => .inl ⟨j, (sub j hj).1, ha⟩, rfl⟩ q ex
  have fr := S.fresh i hi
  have nX : ¬ XOf f σ (ρ.set i (some (.sh (.list ds)))) (σ.α i) := by
    rintro (ha | ha | ⟨j, hj, ha⟩)
    · exact S.offY i hi ha
    · exact fr.2.1 ha
    · exact (sub j hj).2 (S.inj i j hi (sub j hj).1 ha).symm
  obtain ⟨⟨m, hns, hv⟩, c, kE, nd, frs, len, Yfs, yex, offY, Y0⟩ := S
  refine ⟨⟨m, hns, fun j x d hx hd => ?_⟩, c, kE, fun j l hj hl => nd j l (sub j hj).1 (sub l hl).1, fun j hj => frs j (sub j hj).1, by rw [List.length_set]; exact len, Yfs, yex, fun j hj => offY j (sub j hj).1, Y0⟩
  rcases set_get hd with ⟨e, e'⟩ | ⟨e, e'⟩
  · subst e; injection e' with e'; subst e'
    obtain ⟨em, vs, k, ha, r, hl⟩ := hv j x _ hx hb
    refine ⟨_, em, ?_⟩
    simp only [Rep]
    exact ⟨_, vs, k, rfl, ⟨ha, nX⟩, r.mono (KX.refl _ _) fun a ha => .inl (subX a ha), hl⟩
  · exact (hv j x d hx e').step (KX.refl _ _) (fun a ha => .inl (subX a ha)) rfl fun _ _ e => e
end
section
variable {g : GI} {f : Fm} {n : Nat} {ρ : En}
theorem ownName {x : Str} {i : Nat} {b : B} {np : Pos} {σ : Sp} {s : Shared} {Q : Value → Shared → Prop} {E : Value → Shared → Prop} (ok : FmOk g f n) (S : St g f σ ρ s.heap) (hx : f.xs[i]? = some x) (hb : ρ[i]? = some (some b)) (ho : b.obj = true)
    (h : Q (.ref (σ.α i)) s) : wpAny (model g.prog g.w) f.A (eval (.Name x np) f.env) Q E s := by
  obtain ⟨m, hns, hv⟩ := S.ex
  have hm := List.mem_of_getElem? hx
  have e : m x = some (.ref (σ.α i)) := by
    have := hv i x b (Fm.nmx hx) hb
    cases b with
    | sh _ => cases ho
    | bo _ => cases ho
    | ce _ => cases ho
    | bc _ => cases ho
    | me _ => cases ho
    | li _ => exact this.1
    | ba _ => exact this.1
  exact wpAny_Name (wpAny_loadName_local ok.kind (ok.loc x hm) hns e h) (ok.ndx hm)
theorem St.li {i : Nat} {ds : List V} {σ : Sp} {h : Heap} (S : St g f σ ρ h) (hb : ρ[i]? = some (some (.li ds))) : ∃ vs m, h.get? (σ.α i) = some (lobj vs m) ∧ RepL g.C h (XOf f σ ρ) ds vs ∧ vs.length ≤ sizeLine := by
  obtain ⟨m, hns, hv⟩ := S.ex
  have hl : i < f.nm.length := Nat.lt_of_lt_of_le (List.getElem?_eq_some_iff.mp hb).1 S.len
  obtain ⟨_, r⟩ := hv i _ _ (List.getElem?_eq_getElem hl) hb
  exact r
theorem listMeth {x : Str} {i : Nat} {ds : List V} {name : Str} {id : String} {np apos pos spos : Pos} {e : Expr} {d : V} {σ : Sp} {s : Shared} {Q : Flow → Shared → Prop} {E : Value → Shared → Prop} (ok : FmOk g f n) (S : St g f σ ρ s.heap) (hx : f.xs[i]? = some x) (hb : ρ[i]? = some (some (.li ds)))
    (slot : Slot "list" name id) (hty : typeOf (.builtin id) = pure (.type "method_descriptor")) (he : Ev g f ρ e (.ok d))
    (q : ∀ v h' tk, Kf f.fs s.heap h' → St g f σ ρ h' → Rep g.C h' (XOf f σ ρ) d v → wpAny (model g.prog g.w) f.A (call (.builtin id) [.ref (σ.α i), v]) (fun v s' => match v with | .ref _ => False | _ => Q .next s') E { s with heap := h', toks := tk })
    (hline : (apos.endLine == pos.line) = true) (hh : starEach [e] f.env = [(false, eval e f.env)]) (hi : interactive f.env = false) (hs : swapsWith (.Call (.Attribute (.Name x np) name apos) [e] [] pos) none spos.line f.env = pure false) :
    wpAny (model g.prog g.w) f.A (exec (.Expr (.Call (.Attribute (.Name x np) name apos) [e] [] pos) spos) f.env) Q E s := by
  refine wpAny_Expr ?_ hi hs
  refine wpAny_Call_method rfl (by rw [hh]; rfl) hline PySem.F.plainAttrs_list slot hty (ownName ok S hx hb rfl ?_)
  obtain ⟨vs, m, ha, _⟩ := S.li hb
  refine ⟨⟨_, ha, rfl⟩, fun a e => by injection e with e; subst e; exact ⟨_, ha, rfl⟩, ?_⟩
  refine call_raw ok kept_builtin S (Evs.cons ok he Evs.nil hh) (fun vs h' tk k rr => ?_) hh rfl
  simp only [RepL] at rr
  obtain ⟨v, r, rfl, rv, rfl⟩ := rr
  exact q v h' tk k (S.mono ok k) rv
theorem Ex.append {x : Str} {np apos pos spos : Pos} {e : Expr} {rest : List Stmt} {ds : List V} {d : V} {O : Out → Prop} (ok : FmOk g f n) (i : Nat) (hx : f.xs[i]? = some x) (hb : ρ[i]? = some (some (.li ds))) (he : Ev g f ρ e (.ok d)) (hl : ds.length + 1 ≤ sizeLine)
    (h : Ex g f (ρ.set i (some (.li (ds ++ [d])))) rest O) (hline : (apos.endLine == pos.line) = true := by rfl) (hh : starEach [e] f.env = [(false, eval e f.env)] := by rfl) (hi : interactive f.env = false := by rfl)
    (hs : swapsWith (.Call (.Attribute (.Name x np) "append" apos) [e] [] pos) none spos.line f.env = pure false := by rfl) :
    Ex g f ρ (.Expr (.Call (.Attribute (.Name x np) "append" apos) [e] [] pos) spos :: rest) O := fun σ s Q E S q ex => by
  refine wpAny_execs_cons (listMeth ok S hx hb slot_list_append type_list_append he (fun v h' tk k S' rv => ?_) hline hh hi hs)
  obtain ⟨vs, m, ha, rl, hlen⟩ := S'.li hb
  have hvl : vs.length = ds.length := RepL.length rl
  refine wpAny_list_append_plain (s := { s with heap := h', toks := tk }) (items := vs.toArray) ⟨m, ha⟩ (fun h₂ ⟨m', ha'⟩ hs' => ?_) (by simpa using hlen)
  have ha'' : h₂.get? (σ.α i) = some (lobj (vs ++ [v]) m') := by rw [ha']; simp [lobj]
  have aX : XOf f σ ρ (σ.α i) := .inr (.inr ⟨i, ⟨_, hb, rfl⟩, rfl⟩)
  have kx : KX (XOf f σ ρ) h' h₂ := fun c o ec nc => (hs'.2 c fun z => nc (z ▸ aX)).trans ec
  obtain ⟨S₂, T₂⟩ := S'.turn ok hb rfl (b' := .li (ds ++ [d])) rfl hs' fun m₀ x₀ a₀ hv₀ ea => by
    subst ea
    refine ⟨hv₀.1, vs ++ [v], m', ha'', ?_, by rw [List.length_append]; simp [hvl]; omega⟩
    have sub : ∀ b, XOf f σ (ρ.set i (some (.li (ds ++ [d])))) b → XOf f σ ρ b ∨ h'.get? b = none := fun b hb' => .inl ((X_set hb rfl rfl b).mp hb')
    refine RepL.append (rl.mono kx sub) ?_
    simp only [RepL]
    exact ⟨v, [], rfl, rv.mono kx sub, rfl⟩
  exact Ex.after (σ := σ) (ρ := ρ) (s := s) h S₂ (k.trn.trans T₂) q ex
theorem Ex.extend {x : Str} {np apos pos spos : Pos} {e : Expr} {rest : List Stmt} {ds es : List V} {d : V} {O : Out → Prop} (ok : FmOk g f n) (i : Nat) (hx : f.xs[i]? = some x) (hb : ρ[i]? = some (some (.li ds))) (he : Ev g f ρ e (.ok d)) (hd : d = .list es ∨ d = .tup es) (hl : ds.length + es.length ≤ sizeLine)
    (h : Ex g f (ρ.set i (some (.li (ds ++ es)))) rest O) (hline : (apos.endLine == pos.line) = true := by rfl) (hh : starEach [e] f.env = [(false, eval e f.env)] := by rfl) (hi : interactive f.env = false := by rfl)
    (hs : swapsWith (.Call (.Attribute (.Name x np) "extend" apos) [e] [] pos) none spos.line f.env = pure false := by rfl) :
    Ex g f ρ (.Expr (.Call (.Attribute (.Name x np) "extend" apos) [e] [] pos) spos :: rest) O := fun σ s Q E S q ex => by
  refine wpAny_execs_cons (listMeth ok S hx hb PySem.F.slot_list_extend PySem.F.type_list_extend he (fun v h' tk k S' rv => ?_) hline hh hi hs)
  obtain ⟨vs, m, ha, rl, hlen⟩ := S'.li hb
  have hvl : vs.length = ds.length := RepL.length rl
  have aX : XOf f σ ρ (σ.α i) := .inr (.inr ⟨i, ⟨_, hb, rfl⟩, rfl⟩)
  have fin : ∀ us b, v = .ref b → RepL g.C h' (XOf f σ ρ) es us → us.length ≤ sizeLine →
      wpAny (model g.prog g.w) f.A (execs rest f.env) Q E { s with heap := h'.update (σ.α i) (Obj.mapSeq fun x => x ++ us.toArray), toks := tk } := by
    intro us b _ ru hul
    have hul' : us.length = es.length := RepL.length ru
    have hs' : Heap.SameBut (σ.α i) h' (h'.update (σ.α i) (Obj.mapSeq fun x => x ++ us.toArray)) := Heap.SameBut.update ..
    have ha'' : ∃ m', (h'.update (σ.α i) (Obj.mapSeq fun x => x ++ us.toArray)).get? (σ.α i) = some (lobj (vs ++ us) m') := by
      refine ⟨if (vs.toArray ++ us.toArray).size == vs.toArray.size then m else m + 1, ?_⟩
      rw [Heap.get?_update_self _ ha (by simp [lobj, Obj.mapSeq, Obj.isFreed])]
      simp [lobj, Obj.mapSeq]
    obtain ⟨m', ha''⟩ := ha''
    have kx : KX (XOf f σ ρ) h' (h'.update (σ.α i) (Obj.mapSeq fun x => x ++ us.toArray)) := fun c o ec nc => (hs'.2 c fun z => nc (z ▸ aX)).trans ec
    obtain ⟨S₂, T₂⟩ := S'.turn ok hb rfl (b' := .li (ds ++ es)) rfl hs' fun m₀ x₀ a₀ hv₀ ea => by
      subst ea
      refine ⟨hv₀.1, vs ++ us, m', ha'', ?_, by rw [List.length_append]; omega⟩
      have sub : ∀ b, XOf f σ (ρ.set i (some (.li (ds ++ es)))) b → XOf f σ ρ b ∨ h'.get? b = none := fun b hb' => .inl ((X_set hb rfl rfl b).mp hb')
      exact RepL.append (rl.mono kx sub) (ru.mono kx sub)
    exact Ex.after (σ := σ) (ρ := ρ) (s := s) h S₂ (k.trn.trans T₂) q ex
  have door : ¬(!vs.toArray.isEmpty && Builtin.List.listTooLong (vs.toArray.size + es.length)) = true := by
    unfold Builtin.List.listTooLong
    simp [hvl]
    intro _; omega
  have door' : ∀ us : List Value, us.length = es.length → ¬(!vs.toArray.isEmpty && Builtin.List.listTooLong (vs.toArray.size + us.toArray.size)) = true := fun us hu => by
    have e : us.toArray.size = es.length := by simp [hu]
    rw [e]; exact door
  rcases hd with rfl | rfl
  · simp only [Rep] at rv
    obtain ⟨b, us, m2, rfl, hbb, ru, hul⟩ := rv
    have hul' : us.length = es.length := RepL.length ru
    refine call_meets (s := { s with heap := h', toks := tk }) PySem.F.slot_list_extend ⟨_, ha, rfl⟩ PySem.F.entry_list_extend (PySem.F.args_list_extend_2 _ _) (PySem.AutoSeq1.list_extend_list_list_0 (σ.α i) vs.toArray m b us.toArray m2 (door' us hul') (by simpa using hlen) (by simp; omega)) ⟨ha, hbb.1, ?_⟩
    exact fin us b rfl ru hul
  · simp only [Rep] at rv
    obtain ⟨b, us, m2, rfl, hbb, ru, hul⟩ := rv
    have hul' : us.length = es.length := RepL.length ru
    refine call_meets (s := { s with heap := h', toks := tk }) PySem.F.slot_list_extend ⟨_, ha, rfl⟩ PySem.F.entry_list_extend (PySem.F.args_list_extend_2 _ _) (PySem.AutoSeq1.list_extend_list_tuple_0 (σ.α i) vs.toArray m b us.toArray m2 (door' us hul') (by simpa using hlen) (by simp; omega)) ⟨ha, hbb.1, ?_⟩
    exact fin us b rfl ru hul
end
def Bi (g : GI) (n : Nat) (fv : Value) (ds : List V) (r : Res) : Prop :=
  ∀ (f : Fm) (ρ : En) (σ : Sp) (s : Shared) (Q : Value → Shared → Prop) (E : Value → Shared → Prop) (vs : List Value), FmOk g f n → St g f σ ρ s.heap →
    RepL g.C s.heap (XOf f σ ρ) ds vs →
    (∀ v d h' tk, r = .ok d → Kf f.fs s.heap h' → Rep g.C h' (XOf f σ ρ) d v → Q v { s with heap := h', toks := tk }) →
    (∀ c e' h' tk, r = .exc c → Fly f s.heap h' e' c → E (.ref e') { s with heap := h', toks := tk }) →
    wpAny (model g.prog g.w) f.A (call fv vs) Q E s
section
variable {g : GI} {f : Fm} {n m : Nat} {ρ : En}
theorem Ev.callB {x : Str} {np pos : Pos} {fv : Value} {e : Expr} {es : List Expr} {ds : List V} {r : Res} (ok : FmOk g f n) (hx : f.env.kindOf x = some .globalImplicit) (gv : GV g x fv) (hk : Kept g fv)
    (ha : Evs g f ρ (e :: es) (.ok ds)) (hf : Bi g n fv ds r)
    (hh : starEach (e :: es) f.env = (false, eval e f.env) :: starEach es f.env := by rfl) (hplain : (backTo pos (starEach es f.env)).any (·.1) = false := by rfl) :
    Ev g f ρ (.Call (.Name x np) (e :: es) [] pos) r := fun σ s Q E S q ex => by
  refine wpAny_Call_ofName (gv f n np s _ _ ok hx S.cs ?_)
  refine call_raw (first := []) ok hk S ha (fun vs h' tk k rr => ?_) hh hplain
  exact hf f ρ σ { s with heap := h', toks := tk } Q E vs ok (S.mono ok k) rr (fun v d h'' tk' e k' r => q v d h'' tk' e (k.trans k') r) fun c e' h'' tk' e fl => ex c e' h'' tk' e (fl.trans k)
theorem line_fits {k : Nat} (h : k ≤ sizeLine) : k ≤ 16777216 := h
theorem Bi.lenList {ds : List V} : Bi g n (.builtin "len") [.list ds] (.ok (.int ds.length)) := fun f ρ σ s Q E vs ok S hr q ex => by
  simp only [RepL, Rep] at hr
  obtain ⟨v, r, rfl, ⟨a, us, m, rfl, ha, rl, hl⟩, rfl⟩ := hr
  have e : us.length = ds.length := RepL.length rl
  have := line_fits hl
  refine call_len_list (items := us.toArray) ⟨_, ha.1, rfl, m, rfl⟩ (by simp; omega) (q _ _ s.heap _ rfl (Kf.refl _ _) ?_)
  simp only [Rep]; exact ⟨s.toks + 1, by simp [e]⟩
theorem Bi.lenScr {ns : List Int} : Bi g n (.builtin "len") [.scr ns] (.ok (.int ns.length)) := fun f ρ σ s Q E vs ok S hr q ex => by
  simp only [RepL, Rep] at hr
  obtain ⟨v, r, rfl, ⟨a, o, us, m, rfl, ha, hc, hd, hi, hl⟩, rfl⟩ := hr
  have e : us.length = ns.length := hi.length
  have := line_fits hl
  refine call_len_list (items := us.toArray) ⟨_, ha.1, hc, m, hd⟩ (by simp; omega) (q _ _ s.heap _ rfl (Kf.refl _ _) ?_)
  simp only [Rep]; exact ⟨s.toks + 1, by simp [e]⟩
theorem Bi.lenTup {ds : List V} : Bi g n (.builtin "len") [.tup ds] (.ok (.int ds.length)) := fun f ρ σ s Q E vs ok S hr q ex => by
  simp only [RepL, Rep] at hr
  obtain ⟨v, r, rfl, ⟨a, us, m, rfl, ha, rl, hl⟩, rfl⟩ := hr
  have e : us.length = ds.length := RepL.length rl
  have := line_fits hl
  refine PyProof.Rows.len_tuple (items := us.toArray) ⟨_, ha.1, rfl, m, rfl⟩ (by simp; omega) (q _ _ s.heap _ rfl (Kf.refl _ _) ?_)
  simp only [Rep]; exact ⟨s.toks + 1, by simp [e]⟩
theorem Bi.lenBytes {b : List UInt8} : Bi g n (.builtin "len") [.bytes b] (.ok (.int b.length)) := fun f ρ σ s Q E vs ok S hr q ex => by
  simp only [RepL, Rep] at hr
  obtain ⟨v, r, rfl, ⟨⟨t, rfl⟩, hl⟩, rfl⟩ := hr
  have := line_fits hl
  refine len_bytes (by simp; omega) (q _ _ s.heap _ rfl (Kf.refl _ _) ?_)
  simp only [Rep]; exact ⟨s.toks + 1, by simp⟩
theorem Bi.max2 {a b : Int} : Bi g n (.builtin "max") [.int a, .int b] (.ok (.int (max a b))) := fun f ρ σ s Q E vs ok S hr q ex => by
  simp only [RepL, Rep] at hr
  obtain ⟨v, r, rfl, ⟨t, rfl⟩, v', r', rfl, ⟨u, rfl⟩, rfl⟩ := hr
  refine max_two_ints ok.hd fun h' tk hk => ?_
  by_cases hc : b > a
  · rw [if_pos hc]; exact q _ _ h' tk rfl (Kf.of_keeps hk) (by simp only [Rep]; exact ⟨u, by rw [show max a b = b by omega]⟩)
  · rw [if_neg hc]; exact q _ _ h' tk rfl (Kf.of_keeps hk) (by simp only [Rep]; exact ⟨t, by rw [show max a b = a by omega]⟩)
theorem Bi.min2 {a b : Int} : Bi g n (.builtin "min") [.int a, .int b] (.ok (.int (min a b))) := fun f ρ σ s Q E vs ok S hr q ex => by
  simp only [RepL, Rep] at hr
  obtain ⟨v, r, rfl, ⟨t, rfl⟩, v', r', rfl, ⟨u, rfl⟩, rfl⟩ := hr
  refine min_two_ints ok.hd fun h' tk hk => ?_
  by_cases hc : b < a
  · rw [if_pos hc]; exact q _ _ h' tk rfl (Kf.of_keeps hk) (by simp only [Rep]; exact ⟨u, by rw [show min a b = b by omega]⟩)
  · rw [if_neg hc]; exact q _ _ h' tk rfl (Kf.of_keeps hk) (by simp only [Rep]; exact ⟨t, by rw [show min a b = a by omega]⟩)
theorem ints_of : ∀ {ns : List Int} {vs : List Value} {h : Heap} {X : Addr → Prop}, RepL g.C h X (ns.map .int) vs → IntsAre vs ns
  | [], vs, h, X, r => by simp only [List.map_nil, RepL] at r; subst r; exact .nil
  | k :: ns, vs, h, X, r => by
    simp only [List.map_cons, RepL, Rep] at r
    obtain ⟨v, u, rfl, ⟨t, rfl⟩, r⟩ := r
    exact .cons _ _ (ints_of r)
def bytesOf (ns : List Int) : List UInt8 := ns.map fun n => n.toNat.toUInt8
theorem Bi.bytesL {ns : List Int} (hn : ∀ k ∈ ns, 0 ≤ k ∧ k < 256) : Bi g n (.type "bytes") [.list (ns.map .int)] (.ok (.bytes (bytesOf ns))) := fun f ρ σ s Q E vs ok S hr q ex => by
  simp only [RepL, Rep] at hr
  obtain ⟨v, r, rfl, ⟨a, us, m, rfl, ha, rl, hl⟩, rfl⟩ := hr
  refine call_bytes_ints (vs := us) ⟨_, ha.1, rfl, m, rfl⟩ (ints_of rl) hn hl ok.hd fun h' t k hk => ?_
  refine q _ _ h' k rfl (Kf.of_keeps hk) ?_
  have e : us.length = ns.length := by rw [RepL.length rl]; simp
  simp only [Rep]
  exact ⟨⟨t, rfl⟩, by unfold bytesOf; rw [List.length_map, ← e]; exact hl⟩
end
theorem slot_bytes_lt : Slot "bytes" (cmpInfo .Lt).2.1 "bytes.__lt__" :=
  .of (owner := "bytes") (n := "__lt__") (by rw [typeLookup_type, builtinLookup_eq_fast]; kernel_rfl) (by decide +kernel) (by decide +kernel) (by decide +kernel)
    (by first | exact .inl (by decide +kernel) | exact .inr (by decide +kernel)) (by rw [isSubtype_type]; kernel_rfl)
theorem entry_bytes_lt : entryFor table "bytes.__lt__" = some Builtin.«bytes.__lt__» := entryFor_of_tree (by kernel_rfl)
theorem args_bytes_lt_2 (a b : Value) : argsOk "bytes.__lt__" ⟨[a, b], []⟩ := by
  unfold argsOk; rw [signature?_of (id := "bytes.__lt__") (n := ['_', '_', 't', 'l', '_', '_']) (o := ['s', 'e', 't', 'y', 'b']) (by kernel_rfl) FB.owner_bytes]; kernel_rfl
theorem slot_bytes_gt : Slot "bytes" (cmpInfo .Gt).2.1 "bytes.__gt__" :=
  .of (owner := "bytes") (n := "__gt__") (by rw [typeLookup_type, builtinLookup_eq_fast]; kernel_rfl) (by decide +kernel) (by decide +kernel) (by decide +kernel)
    (by first | exact .inl (by decide +kernel) | exact .inr (by decide +kernel)) (by rw [isSubtype_type]; kernel_rfl)
theorem entry_bytes_gt : entryFor table "bytes.__gt__" = some Builtin.«bytes.__gt__» := entryFor_of_tree (by kernel_rfl)
theorem args_bytes_gt_2 (a b : Value) : argsOk "bytes.__gt__" ⟨[a, b], []⟩ := by
  unfold argsOk; rw [signature?_of (id := "bytes.__gt__") (n := ['_', '_', 't', 'g', '_', '_']) (o := ['s', 'e', 't', 'y', 'b']) (by kernel_rfl) FB.owner_bytes]; kernel_rfl
def bord (a b : List UInt8) : Ordering := Builtin.Bytes.order a b
theorem gives_bytes_lt (b c : Array UInt8) (t u : Tok) : Gives (Builtin.«bytes.__lt__» ⟨[.bytes b t, .bytes c u], []⟩) (.val (.bool (bord b.toList c.toList == .lt))) := by
  refine .of_wp fun M A E s Q hq => ?_
  show wpAny M A (isInstance (.bytes c u) (.type "bytes") >>= fun r => _) _ E s
  refine wpAny_bind (wpAny_isInstance (typeIs_bytes s c u) F.sub_bytes_bytes ?_)
  exact wpAny_pure ⟨_, rfl, hq⟩
theorem gives_bytes_gt (b c : Array UInt8) (t u : Tok) : Gives (Builtin.«bytes.__gt__» ⟨[.bytes b t, .bytes c u], []⟩) (.val (.bool (bord b.toList c.toList == .gt))) := by
  refine .of_wp fun M A E s Q hq => ?_
  show wpAny M A (isInstance (.bytes c u) (.type "bytes") >>= fun r => _) _ E s
  refine wpAny_bind (wpAny_isInstance (typeIs_bytes s c u) F.sub_bytes_bytes ?_)
  exact wpAny_pure ⟨_, rfl, hq⟩
theorem op2_bb {g : GI} {n : Nat} {t : Value → Value → Sem Value} {a b : List UInt8} {c : Bool} (h : ∀ {A : Around} {E : Value → Shared → Prop} {s : Shared} {Q : Value → Shared → Prop} {x y : Tok}, Q (.bool c) s → wpAny (model g.prog g.w) A (t (.bytes a.toArray x) (.bytes b.toArray y)) Q E s) :
    Op2 g n t (.bytes a) (.bytes b) (.ok (.bool c)) := fun f ρ σ s Q E va vb ok S ra rb q ex => by
  simp only [Rep] at ra rb
  obtain ⟨⟨x, rfl⟩, _⟩ := ra
  obtain ⟨⟨y, rfl⟩, _⟩ := rb
  exact h (q _ _ s.heap s.toks rfl (Kf.refl _ _) (by simp only [Rep]))
theorem Op2.ltB {g : GI} {n : Nat} {a b : List UInt8} : Op2 g n (compareOp .Lt) (.bytes a) (.bytes b) (.ok (.bool (bord a b == .lt))) := op2_bb fun {A E s Q x y} h =>
  compareOp_gives (op := .Lt) (typeIs_bytes s _ _) (typeIs_bytes s _ _) slot_bytes_lt entry_bytes_lt (args_bytes_lt_2 _ _) (gives_bytes_lt _ _ _ _) (fun e => nomatch e) h
theorem Op2.gtB {g : GI} {n : Nat} {a b : List UInt8} : Op2 g n (compareOp .Gt) (.bytes a) (.bytes b) (.ok (.bool (bord a b == .gt))) := op2_bb fun {A E s Q x y} h =>
  compareOp_gives (op := .Gt) (typeIs_bytes s _ _) (typeIs_bytes s _ _) slot_bytes_gt entry_bytes_gt (args_bytes_gt_2 _ _) (gives_bytes_gt _ _ _ _) (fun e => nomatch e) h
section
variable {g : GI} {A : Around} {s : Shared} {X : Addr → Prop}
theorem RcAt.bytes (b c : List UInt8) (t u : Tok) : SeqAt.RcAt A s (.bytes b.toArray t) (.bytes c.toArray u) (b == c) := fun prog w E Q h => eq_bytes h
theorem EqAt.by (b c : List UInt8) (t u : Tok) : SeqAt.EqAt A s (.bytes b.toArray t) (.bytes c.toArray u) (b == c) := fun prog w E Q hq => by
  unfold eqBool
  refine wpAny_holding ?_
  refine wpAny_ite_split (fun hab => ?_) (fun _ => ?_)
  · have e := eq_of_beq hab
    injection e with e1 _
    have : b = c := congrArg Array.toList e1
    rw [beq_iff_eq.mpr this] at hq
    exact wpAny_bind (wpAny_rule (wpAny_pure hq))
  · exact wpAny_bind (RcAt.bytes b c t u prog w E _ (wpAny_truthy_bool hq))
def eAt {α : Type} [DecidableEq α] (xs ys : List α) (j : Nat) : Bool := decide (xs[j]? = ys[j]?)
theorem eAt_all {α : Type} [DecidableEq α] {xs ys : List α} (h : xs.length = ys.length) : (List.range xs.length).all (eAt xs ys) = decide (xs = ys) := by
  rw [Bool.eq_iff_iff, List.all_eq_true, decide_eq_true_iff]
  constructor
  · intro ha
    refine List.ext_getElem? fun j => ?_
    rcases Nat.lt_or_ge j xs.length with hj | hj
    · exact of_decide_eq_true (ha j (List.mem_range.mpr hj))
    · rw [List.getElem?_eq_none hj, List.getElem?_eq_none (h ▸ hj)]
  · rintro rfl j _
    exact decide_eq_true rfl
theorem items_at {α : Type} [DecidableEq α] {f : α → V} (hE : ∀ x y v u, Rep g.C s.heap X (f x) v → Rep g.C s.heap X (f y) u → SeqAt.EqAt A s v u (decide (x = y))) {xs ys : List α} {vs us : List Value}
    (r : RepL g.C s.heap X (xs.map f) vs) (q : RepL g.C s.heap X (ys.map f) us) (j : Nat) (h1 : j < vs.toArray.size) (h2 : j < us.toArray.size) : SeqAt.EqAt A s vs.toArray[j] us.toArray[j] (eAt xs ys j) := by
  have l1 := RepL.length r
  have l2 := RepL.length q
  rw [List.length_map] at l1 l2
  have h1' : j < xs.length := l1 ▸ h1
  have h2' : j < ys.length := l2 ▸ h2
  obtain ⟨v, ev, rv⟩ := r.get (d := f xs[j]) (by rw [List.getElem?_map, List.getElem?_eq_getElem h1']; rfl)
  obtain ⟨u, eu, ru⟩ := q.get (d := f ys[j]) (by rw [List.getElem?_map, List.getElem?_eq_getElem h2']; rfl)
  obtain ⟨_, e1⟩ := List.getElem?_eq_some_iff.mp ev
  obtain ⟨_, e2⟩ := List.getElem?_eq_some_iff.mp eu
  have e1 : vs.toArray[j] = v := e1
  have e2 : us.toArray[j] = u := e2
  have ea : eAt xs ys j = decide (xs[j] = ys[j]) := by unfold eAt; rw [List.getElem?_eq_getElem h1', List.getElem?_eq_getElem h2']; simp only [Option.some.injEq]
  rw [e1, e2, ea]
  exact hE _ _ _ _ rv ru
theorem list_rc {α : Type} [DecidableEq α] {f : α → V} (hE : ∀ x y v u, Rep g.C s.heap X (f x) v → Rep g.C s.heap X (f y) u → SeqAt.EqAt A.in1 s v u (decide (x = y))) {xs ys : List α} {v u : Value} (hu : A.units < cLine)
    (r : Rep g.C s.heap X (.list (xs.map f)) v) (q : Rep g.C s.heap X (.list (ys.map f)) u) : SeqAt.RcAt A s v u (decide (xs = ys)) ∧ SeqAt.RcNeAt A s v u (!decide (xs = ys)) := by
  simp only [Rep] at r q
  obtain ⟨a, vs, n, rfl, h1, r1, _⟩ := r
  obtain ⟨a', us, n', rfl, h2, r2, _⟩ := q
  have l1 := RepL.length r1
  have l2 := RepL.length r2
  rw [List.length_map] at l1 l2
  by_cases hl : xs.length = ys.length
  · have hsz : vs.toArray.size = us.toArray.size := l1.trans (hl.trans l2.symm)
    have e1 : (List.range vs.toArray.size).all (eAt xs ys) = decide (xs = ys) := (congrArg (fun k => (List.range k).all (eAt xs ys)) l1).trans (eAt_all hl)
    rw [← e1]
    exact ⟨SeqAt.RcAt.lists ⟨_, h1.1, rfl, n, rfl⟩ ⟨_, h2.1, rfl, n', rfl⟩ hsz hu (items_at hE r1 r2), SeqAt.RcNeAt.lists ⟨_, h1.1, rfl, n, rfl⟩ ⟨_, h2.1, rfl, n', rfl⟩ hsz hu (items_at hE r1 r2)⟩
  · have hsz : (vs.toArray.size != us.toArray.size) = true := bne_iff_ne.mpr fun e => hl (l1.symm.trans (e.trans l2))
    rw [decide_eq_false fun e : xs = ys => hl (congrArg List.length e)]
    exact ⟨SeqAt.RcAt.lists_lengths ⟨_, h1.1, rfl, n, rfl⟩ ⟨_, h2.1, rfl, n', rfl⟩ hsz hu, SeqAt.RcNeAt.lists_lengths ⟨_, h1.1, rfl, n, rfl⟩ ⟨_, h2.1, rfl, n', rfl⟩ hsz hu⟩
theorem int_at (x y : Int) (v u : Value) (r : Rep g.C s.heap X (.int x) v) (q : Rep g.C s.heap X (.int y) u) : SeqAt.EqAt A s v u (decide (x = y)) := by
  simp only [Rep] at r q
  obtain ⟨t, rfl⟩ := r; obtain ⟨t', rfl⟩ := q
  exact SeqAt.EqAt.int_int x t y t'
theorem bytes_at' (x y : List UInt8) (v u : Value) (r : Rep g.C s.heap X (.bytes x) v) (q : Rep g.C s.heap X (.bytes y) u) : SeqAt.EqAt A s v u (decide (x = y)) := by
  simp only [Rep] at r q
  obtain ⟨⟨t, rfl⟩, _⟩ := r; obtain ⟨⟨t', rfl⟩, _⟩ := q
  have e : (x == y) = decide (x = y) := Bool.eq_iff_iff.mpr (beq_iff_eq.trans decide_eq_true_iff.symm)
  exact e ▸ EqAt.by x y t t'
end
section
variable {g : GI} {n : Nat}
theorem Op2.eqBy {a b : List UInt8} : Op2 g n (compareOp .Eq) (.bytes a) (.bytes b) (.ok (.bool (a == b))) := op2_bb fun h => eq_bytes h
theorem Op2.neBo {a b : Bool} : Op2 g n (compareOp .NotEq) (.bool a) (.bool b) (.ok (.bool (!(a == b)))) := fun f ρ σ s Q E va vb ok S ra rb q ex => by
  simp only [Rep] at ra rb; subst ra; subst rb
  exact SeqAt.RcNeAt.bool_bool a b g.prog g.w E Q (q _ _ s.heap s.toks rfl (Kf.refl _ _) (by simp only [Rep]))
theorem Op2.eqI {a b : List Int} (hn : 1 ≤ n) : Op2 g n (compareOp .Eq) (.list (a.map .int)) (.list (b.map .int)) (.ok (.bool (decide (a = b)))) := fun f ρ σ s Q E va vb ok S ra rb q ex =>
  (list_rc (fun x y v u => int_at x y v u) (by have := ok.room.2; omega) ra rb).1 g.prog g.w E Q (q _ _ s.heap s.toks rfl (Kf.refl _ _) (by simp only [Rep]))
theorem Op2.neI {a b : List Int} (hn : 1 ≤ n) : Op2 g n (compareOp .NotEq) (.list (a.map .int)) (.list (b.map .int)) (.ok (.bool (!decide (a = b)))) := fun f ρ σ s Q E va vb ok S ra rb q ex =>
  (list_rc (fun x y v u => int_at x y v u) (by have := ok.room.2; omega) ra rb).2 g.prog g.w E Q (q _ _ s.heap s.toks rfl (Kf.refl _ _) (by simp only [Rep]))
theorem Op2.neL {a b : List (List UInt8)} (hn : 1 ≤ n) : Op2 g n (compareOp .NotEq) (.list (a.map .bytes)) (.list (b.map .bytes)) (.ok (.bool (!decide (a = b)))) := fun f ρ σ s Q E va vb ok S ra rb q ex =>
  (list_rc (fun x y v u => bytes_at' x y v u) (by have := ok.room.2; omega) ra rb).2 g.prog g.w E Q (q _ _ s.heap s.toks rfl (Kf.refl _ _) (by simp only [Rep]))
def ilt : List Int → List Int → Bool
  | [], [] => false
  | [], _ :: _ => true
  | _ :: _, [] => false
  | a :: r, b :: t => if a = b then ilt r t else decide (a < b)
theorem intsAre_get {vs : List Value} {ns : List Int} (h : IntsAre vs ns) {i : Nat} (hi : i < ns.length) : ∃ t, vs[i]? = some (.int ns[i] t) := by
  induction h generalizing i with
  | nil => simp at hi
  | cons k t r ih => cases i with
    | zero => exact ⟨t, rfl⟩
    | succ i => simpa using ih (by simpa using hi)
open SeqAt MeetsSeq MeetsSeq2 MeetsSeq3 in
theorem lt_loop (l b : Addr) (vs us : List Value) (ns ms : List Int) (n n2 : Nat) (dd dd2 : Option Addr) (sl sl2 : Array (Option Value)) (hv : IntsAre vs ns) (hw : IntsAre us ms) (k : Nat) :
    ∀ i : Nat, ns.length - i = k → i ≤ ns.length → i ≤ ms.length → Meets (Builtin.«list.__eq__.loop» ⟨[.ref l, .ref b, rawInt i, rawInt 0], []⟩)
      (fun A R s => s.heap.get? l = some { cls := .type "list", dict := dd, data := .seq vs.toArray n, slots := sl } ∧ s.heap.get? b = some { cls := .type "list", dict := dd2, data := .seq us.toArray n2, slots := sl2 } ∧
        R (.ok (.ret (.bool (ilt (ns.drop i) (ms.drop i))))) s) := by
  have lv : vs.length = ns.length := hv.length
  have lu : us.length = ms.length := hw.length
  induction k with
  | zero =>
    intro i hk h1 h2 prog w A R s h
    obtain ⟨hp, g, d, tk, os⟩ := s; obtain ⟨hl, hb, h⟩ := h
    wp_walk using AutoSeq1.wpAny_loadPart' hl, AutoSeq1.wpAny_loadPart' hb
    have hi1 : vs.toArray[((i : Nat) : Int).toNat]? = none := by simp; omega
    rw [hi1]
    wp_walk using AutoSeq1.wpAny_loadPart' hl, AutoSeq1.wpAny_loadPart' hb
    show R (.ok (.ret (.bool (decide (vs.toArray.size < us.toArray.size))))) _
    rw [show ns.drop i = [] by simp; omega] at h
    have e : ilt [] (ms.drop i) = decide (vs.toArray.size < us.toArray.size) := by
      rcases Nat.lt_or_ge i ms.length with b | b
      · rw [List.drop_eq_getElem_cons b]; simp [ilt]; omega
      · rw [show ms.drop i = [] by simp; omega]; simp [ilt]; omega
    rwa [e] at h
  | succ k ih =>
    intro i hk h1 h2 prog w A R s h
    obtain ⟨hp, g, d, tk, os⟩ := s; obtain ⟨hl, hb, h⟩ := h
    have a1 : i < ns.length := by omega
    obtain ⟨t, et⟩ := intsAre_get hv a1
    have hi1 : vs.toArray[((i : Nat) : Int).toNat]? = some (.int ns[i] t) := by simpa using et
    wp_walk using AutoSeq1.wpAny_loadPart' hl, AutoSeq1.wpAny_loadPart' hb
    rw [hi1]
    rw [List.drop_eq_getElem_cons a1] at h
    rcases Nat.lt_or_ge i ms.length with a2 | a2
    · obtain ⟨u, eu⟩ := intsAre_get hw a2
      have hi2 : us.toArray[((i : Nat) : Int).toNat]? = some (.int ms[i] u) := by simpa using eu
      rw [List.drop_eq_getElem_cons a2] at h
      rw [hi2]
      refine wpAny_bind (EqAt.int_int ns[i] t ms[i] u prog w _ _ ?_)
      by_cases hc : ns[i] = ms[i]
      · have hcc : ((i : Int) + 1) = ((i + 1 : Nat) : Int) := by push_cast; rfl
        have : (ns[i] == ms[i]) = true := by simpa using hc
        rw [this]
        wp_walk
        rw [hcc]
        refine ⟨plainId_quiet plain_eq_loop _, codeAny_builtin entry_eq_loop (by
          rw [Around.under_plainId plain_eq_loop _]
          refine ih (i + 1) (by omega) (by omega) (by omega) prog w A R _ ⟨hl, hb, ?_⟩
          simp only [ilt, if_pos hc] at h
          exact h)⟩
      · have : (ns[i] == ms[i]) = false := by simpa using hc
        rw [this]
        wp_walk using AutoSeq1.wpAny_loadPart' hl, AutoSeq1.wpAny_loadPart' hb
        rw [hi1, hi2]
        simp only [ilt, if_neg hc] at h
        refine wpAny_bind (wpAny_lt_int ?_)
        wp_walk
        exact h
    · have hi2 : us.toArray[((i : Nat) : Int).toNat]? = none := by simp; omega
      rw [hi2]
      wp_walk using AutoSeq1.wpAny_loadPart' hl, AutoSeq1.wpAny_loadPart' hb
      show R (.ok (.ret (.bool (decide (vs.toArray.size < us.toArray.size))))) _
      rw [show ms.drop i = [] by simp; omega] at h
      have e : ilt (ns[i] :: ns.drop (i + 1)) [] = decide (vs.toArray.size < us.toArray.size) := by simp [ilt]; omega
      rwa [e] at h
open SeqAt MeetsSeq MeetsSeq2 MeetsSeq3 in
theorem list_lt (l b : Addr) (vs us : List Value) (ns ms : List Int) (n n2 : Nat) (dd dd2 : Option Addr) (sl sl2 : Array (Option Value)) (hv : IntsAre vs ns) (hw : IntsAre us ms) :
    Meets (Builtin.«list.__lt__» ⟨[.ref l, .ref b], []⟩)
      (fun A R s => s.heap.get? l = some { cls := .type "list", dict := dd, data := .seq vs.toArray n, slots := sl } ∧ s.heap.get? b = some { cls := .type "list", dict := dd2, data := .seq us.toArray n2, slots := sl2 } ∧
        R (.ok (.ret (.bool (ilt ns ms)))) s) := by
  intro prog w A R s h
  obtain ⟨hp, g, d, tk, os⟩ := s; obtain ⟨hl, hb, h⟩ := h
  have f3 := AutoSeq1.sub_list_list
  wp_walk using AutoSeq1.wpAny_loadPart' hl, AutoSeq1.wpAny_loadPart' hb
  exact ⟨plainId_quiet plain_eq_loop _, codeAny_builtin entry_eq_loop (by
    rw [Around.under_plainId plain_eq_loop _]
    exact lt_loop l b vs us ns ms n n2 dd dd2 sl sl2 hv hw _ 0 rfl (Nat.zero_le _) (Nat.zero_le _) prog w A R _ ⟨hl, hb, by simpa using h⟩)⟩
theorem Op2.ltL {ns ms : List Int} (hn : 1 ≤ n) : Op2 g n (compareOp .Lt) (.list (ns.map .int)) (.list (ms.map .int)) (.ok (.bool (ilt ns ms))) := fun f ρ σ s Q E va vb ok S ra rb q ex => by
  simp only [Rep] at ra rb
  obtain ⟨a, vs, m, rfl, ha, rl, _⟩ := ra
  obtain ⟨b, us, m', rfl, hb, rl', _⟩ := rb
  refine richCompare_meets_room (op := .Lt) ⟨_, ha.1, rfl⟩ ⟨_, hb.1, rfl⟩ F.slot_list_lt F.entry_list_lt (F.args_list_lt_2 _ _) (list_lt a b vs us ns ms m m' none none #[] #[] (ints_of rl) (ints_of rl'))
    ⟨ha.1, hb.1, ?_⟩ (by have := ok.room.2; omega)
  exact ⟨(fun x => nomatch x), q _ _ s.heap s.toks rfl (Kf.refl _ _) (by simp only [Rep])⟩
end
section
variable {g : GI} {f : Fm} {n : Nat} {ρ : En}
theorem Op2.addB {a b : List UInt8} (h : a.length + b.length ≤ 16777216) : Op2 g n (binaryOp .Add) (.bytes a) (.bytes b) (.ok (.bytes (a ++ b))) := fun f ρ σ s Q E va vb ok S ra rb q ex => by
  simp only [Rep] at ra rb
  obtain ⟨⟨x, rfl⟩, _⟩ := ra
  obtain ⟨⟨y, rfl⟩, _⟩ := rb
  refine KBy.add_bytes (by simpa using h) fun t' k => ?_
  exact q _ _ s.heap k rfl (Kf.refl _ _) (by simp only [Rep]; exact ⟨⟨t', by simp⟩, by rw [List.length_append]; exact h⟩)
theorem newL {σ : Sp} {h : Heap} {o : Obj} {ds : List V} {vs : List Value} {a : Addr} {m : Nat} {h' : Heap} {k : Kf f.fs h h'} (S : St g f σ ρ h) (ha : h'.get? a = some (lobj vs m)) (hn : h.get? a = none) (r : RepL g.C h (XOf f σ ρ) ds vs) (hl : vs.length ≤ sizeLine) :
    Rep g.C h' (XOf f σ ρ) (.list ds) (.ref a) := by
  simp only [Rep]
  exact ⟨a, vs, m, rfl, ⟨ha, S.fresh_off hn⟩, r.mono (k.kx S.fsX) fun b m => .inl m, hl⟩
theorem addL_core {a b : Addr} {vs us : List Value} {m m' : Nat} {A : Around} {s : Shared} {Q : Value → Shared → Prop} {E : Value → Shared → Prop} (ha : s.heap.get? a = some (lobj vs m)) (hb : s.heap.get? b = some (lobj us m')) (h : vs.length + us.length ≤ sizeLine)
    (q : Q (.ref s.heap.objs.size) { s with heap := s.heap.push { cls := .type "list", data := .seq (vs ++ us).toArray } }) : wpAny (model g.prog g.w) A (binaryOp .Add (.ref a) (.ref b)) Q E s := by
  refine P.add_list (items := vs.toArray) (items2 := us.toArray) ha hb ?_ (by simpa using h)
  simpa using q
theorem Op2.addL {ds es : List V} (h : ds.length + es.length ≤ sizeLine) : Op2 g n (binaryOp .Add) (.list ds) (.list es) (.ok (.list (ds ++ es))) := fun f ρ σ s Q E va vb ok S ra rb q ex => by
  simp only [Rep] at ra rb
  obtain ⟨a, vs, m, rfl, ha, rl, _⟩ := ra
  obtain ⟨b, us, m', rfl, hb, rl', _⟩ := rb
  have e1 := RepL.length rl
  have e2 := RepL.length rl'
  refine addL_core ha.1 hb.1 (by omega) (q _ _ _ s.toks rfl (push_kf _ _ _) ?_)
  exact newL (k := push_kf _ _ _) (o := default) (m := 0) S (Heap.get?_push_size _ rfl) (none_of_ge (Nat.le_refl _)) (rl.append rl') (by rw [List.length_append]; omega)
theorem RepL.flat {h : Heap} {X : Addr → Prop} {ds : List V} {vs : List Value} (r : RepL g.C h X ds vs) : ∀ k : Nat, RepL g.C h X (List.replicate k ds).flatten (List.replicate k vs).flatten
  | 0 => by simp [RepL]
  | k + 1 => by simp only [List.replicate_succ, List.flatten_cons]; exact r.append (RepL.flat r k)
theorem Op2.mulL {ds : List V} {x : Int} (hlo : -(2 ^ 63 : Int) ≤ x) (hhi : x < 2 ^ 63) (hsz : ds.length * x.toNat ≤ 2 ^ 24) : Op2 g n (binaryOp .Mult) (.list ds) (.int x) (.ok (.list (List.replicate x.toNat ds).flatten)) := fun f ρ σ s Q E va vb ok S ra rb q ex => by
  simp only [Rep] at ra rb
  obtain ⟨a, vs, m, rfl, ha, rl, _⟩ := ra
  obtain ⟨u, rfl⟩ := rb
  have e1 := RepL.length rl
  have ho := ha.1
  have hsz' : vs.toArray.size * x.toNat ≤ 2 ^ 24 := by simpa [e1] using hsz
  refine wpAny_binaryOp_repeat_ref (T := "list") (U := "int") (by decide) ⟨_, ho, rfl⟩ (fun s' => typeIs_int s' x u) noFill_list_mul F.fills_int_mul F.slot_int_rmul repeat_list F.slot_int_index.lookup
    (call_meets F.slot_int_rmul (typeIs_int s x u) F.entry_int_rmul (F.args_int_rmul_2 _ _) (lm_int_rmul_list_any x u a vs.toArray m none #[])
      ⟨ho, rfl, ⟨_, ho, rfl⟩, call_meets F.slot_list_mul ⟨_, ho, rfl⟩ F.entry_list_mul (F.args_list_mul_2 _ _)
        (lm_list_mul_any a vs.toArray m none #[] x u (by simp [Builtin.List.listFitsIndex]; omega) (by omega) (by simp [Builtin.List.listTooLong, sizeLine]; simp at hsz'; omega))
        ⟨ho, ?_⟩⟩)
  rw [listMul_foldl_if]
  refine q _ _ _ s.toks rfl (push_kf _ _ _) ?_
  refine newL (k := push_kf _ _ _) (o := default) (m := 0) S (Heap.get?_push_size _ rfl) (none_of_ge (Nat.le_refl _)) (rl.flat _) ?_
  have : (List.replicate x.toNat vs).flatten.length = x.toNat * vs.length := by simp
  rw [this, Nat.mul_comm, e1]
  exact hsz
theorem listOf_core {a : Addr} {o : Obj} {T : String} {vs : List Value} {m : Nat} {A : Around} {s : Shared} {Q : Value → Shared → Prop} {E : Value → Shared → Prop} (hT : T = "list" ∨ T = "tuple") (ho : s.heap.get? a = some o) (hc : o.cls = .type T) (hd : o.data = .seq vs.toArray m) (hl : vs.length ≤ sizeLine)
    (q : ∀ h' c, Kf [] s.heap h' → s.heap.get? s.heap.objs.size = none → h'.get? s.heap.objs.size = some (lobj vs c) → Q (.ref s.heap.objs.size) { s with heap := h' }) : wpAny (model g.prog g.w) A (call (.type "list") [.ref a]) Q E s :=
  call_list_seq a hT ho hc hd (fun h' c' hk hn => q h' c' (Kf.of_keeps hk) (none_of_ge (Nat.le_refl _)) hn) (by simpa using hl)
theorem Bi.listT {ds : List V} : Bi g n (.type "list") [.tup ds] (.ok (.list ds)) := fun f ρ σ s Q E vs ok S hr q ex => by
  simp only [RepL, Rep] at hr
  obtain ⟨v, r, rfl, ⟨a, us, m, rfl, ha, rl, hl⟩, rfl⟩ := hr
  refine listOf_core (.inr rfl) ha.1 rfl rfl hl fun h' c k hn hg => ?_
  have k' : Kf f.fs s.heap h' := k.mono fun _ hb => nomatch hb
  exact q _ _ h' s.toks rfl k' (newL (k := k') (o := default) S hg hn rl hl)
theorem EvO.listT {np pos : Pos} {e : Expr} {ds : List V} (ok : FmOk g f n) (hx : f.env.kindOf "list" = some .globalImplicit) (gv : GV g "list" (.type "list")) (he : Ev g f ρ e (.ok (.tup ds)))
    (hh : starEach [e] f.env = (false, eval e f.env) :: starEach [] f.env := by rfl) : EvO g f ρ (.Call (.Name "list" np) [e] [] pos) (.li ds) := fun σ s Q E S q => by
  refine wpAny_Call_ofName (gv f n np s _ _ ok hx S.cs ?_)
  refine call_raw (first := []) ok kept_type S (Evs.cons ok he Evs.nil hh) (fun vs h₁ tk k rr => ?_) hh rfl
  simp only [RepL, Rep] at rr
  obtain ⟨v, r, rfl, ⟨a, us, m, rfl, ha, rl, hl⟩, rfl⟩ := rr
  have S₁ := S.mono ok k
  refine listOf_core (s := { s with heap := h₁, toks := tk }) (.inr rfl) ha.1 rfl rfl hl fun h' c k₂ hn hg => ?_
  have k' : Kf f.fs h₁ h' := k₂.mono fun _ hb => nomatch hb
  have hn0 : s.heap.get? h₁.objs.size = none := by
    cases z : s.heap.get? h₁.objs.size with
    | none => rfl
    | some o => obtain ⟨_, q⟩ := (k _ o z).2; rw [show h₁.get? h₁.objs.size = none from hn] at q; cases q
  exact q _ h' tk (k.trans k') hn0 (own_of S₁ k' hg hn rl hl)
theorem Bi.tupL {ds : List V} : Bi g n (.type "tuple") [.list ds] (.ok (.tup ds)) := fun f ρ σ s Q E vs ok S hr q ex => by
  simp only [RepL, Rep] at hr
  obtain ⟨v, r, rfl, ⟨a, us, m, rfl, ha, rl, hl⟩, rfl⟩ := hr
  refine call_tuple_list (items := us.toArray) ⟨_, ha.1, rfl, m, rfl⟩ (fun h' hk => ?_) (by simpa using hl)
  have k : Kf f.fs s.heap h' := Kf.of_keeps hk
  have S' := S.mono ok k
  refine q _ _ _ s.toks rfl (k.trans (push_kf _ _ _)) ?_
  simp only [Rep]
  exact ⟨_, us, 0, rfl, ⟨Heap.get?_push_size _ rfl, S'.fresh_off (none_of_ge (Nat.le_refl _))⟩, rl.mono ((k.trans (push_kf _ _ _)).kx S.fsX) fun b m => .inl m, hl⟩
def blow (b : List UInt8) : List UInt8 := b.map Builtin.Bytes.toLower
theorem slot_bytes_lower : Slot "bytes" "lower" "bytes.lower" :=
  .of (owner := "bytes") (n := "lower") (by rw [typeLookup_type, builtinLookup_eq_fast]; kernel_rfl) (by decide +kernel) (by decide +kernel) (by decide +kernel)
    (by first | exact .inl (by decide +kernel) | exact .inr (by decide +kernel)) (by rw [isSubtype_type]; kernel_rfl)
theorem type_bytes_lower : typeOf (.builtin "bytes.lower") = pure (.type "method_descriptor") := by show builtinType _ = _; rw [builtinType_eq_fast]; kernel_rfl
theorem entry_bytes_lower : entryFor table "bytes.lower" = some Builtin.«bytes.lower» := entryFor_of_tree (by kernel_rfl)
theorem args_bytes_lower_1 (a : Value) : argsOk "bytes.lower" ⟨[a], []⟩ := by
  unfold argsOk; rw [signature?_of (id := "bytes.lower") (n := ['r', 'e', 'w', 'o', 'l']) (o := ['s', 'e', 't', 'y', 'b']) (by kernel_rfl) FB.owner_bytes]; kernel_rfl
theorem lower_meets (b : Array UInt8) (t : Tok) : Meets (Builtin.«bytes.lower» ⟨[.bytes b t], []⟩) (fun _ R s => b.size ≤ sizeLine ∧ R (.ok (.ret (.bytes (blow b.toList).toArray s.toks))) { s with toks := s.toks + 1 }) :=
  .of_wp fun prog w A R s h => by
    obtain ⟨hz, h⟩ := h
    show wpAny _ _ (mkBytes (blow b.toList).toArray >>= fun v => ret v) _ _ _
    refine wpAny_bind (wpAny_mkBytes (wpAny_pure ⟨_, rfl, h⟩) ?_)
    simp [blow]; exact hz
theorem lower_core {b : List UInt8} {t : Tok} {A : Around} {s : Shared} {Q : Value → Shared → Prop} {E : Value → Shared → Prop} {pos : Pos} (hl : b.length ≤ sizeLine) (q : ∀ t' k, Q (.bytes (blow b).toArray t') { s with toks := k }) :
    wpAny (model g.prog g.w) A (callWith pos (.builtin "bytes.lower") [.bytes b.toArray t] [] []) Q E s :=
  seqMethod0_meets slot_bytes_lower entry_bytes_lower (typeIs_bytes s _ _) (args_bytes_lower_1 _) (lower_meets _ _) ⟨by simpa using hl, q _ _⟩
theorem Ev.lower {o : Expr} {apos pos : Pos} {b : List UInt8} (ok : FmOk g f n) (ho : Ev g f ρ o (.ok (.bytes b))) (hbase : attributeBase o "lower" f.env (eval o f.env) = eval o f.env := by rfl)
    (hline : (apos.endLine == pos.line) = true := by rfl) : Ev g f ρ (.Call (.Attribute o "lower" apos) [] [] pos) (.ok (.bytes (blow b))) := fun σ s Q E S q ex => by
  refine wpAny_Call_method hbase rfl hline FB.plainAttrs_bytes slot_bytes_lower type_bytes_lower (ho σ s _ _ S (fun v d h' tk ed k r => ?_) fun c e' h' tk ec => nomatch ec)
  injection ed with ed; subst ed
  simp only [Rep] at r
  obtain ⟨⟨t, rfl⟩, hl⟩ := r
  refine ⟨rfl, (fun a e => nomatch e), ?_⟩
  refine lower_core (s := { s with heap := h', toks := tk }) hl fun t' k' => q _ _ h' k' rfl k ?_
  simp only [Rep]
  exact ⟨⟨t', rfl⟩, by unfold blow; rw [List.length_map]; exact hl⟩
end
theorem setItem_exact {prog : Program} {w : World} {A : Around} {E : Value → Shared → Prop} {s : Shared} {l : Addr} {vs : List Value} {n : Nat} {k : Int} {t : Tok} {v : Value} {Q : Unit → Shared → Prop} (ho : s.heap.get? l = some (lobj vs n))
    (hi : vidx vs.length k < vs.length) (h1 : -(vs.length : Int) ≤ k) (hz : vs.length ≤ sizeLine)
    (hQ : ∀ h' n', h'.get? l = some (lobj (vs.set (vidx vs.length k) v) n') → Heap.SameBut l s.heap h' → Q () { s with heap := h' }) :
    wpAny (model prog w) A (setItem (.ref l) (.int k t) v) Q E s := by
  have hl : s.heap.IsList l vs.toArray := ⟨_, ho, rfl, n, rfl⟩
  have hd : (lobj vs n).data = .seq vs.toArray n := rfl
  have hz' : vs.length ≤ 2 ^ 24 := hz
  have fit : Builtin.List.listFitsIndex k = true := by
    unfold vidx at hi
    split at hi
    · exact fitsIndex_neg (by omega) (by omega)
    · exact fitsIndex_of (by omega) (by omega)
  have hidx := seqIdx hi h1
  unfold setItem
  try with_reducible refine wpAny_holding ?_
  first | refine wpAny_bind (wpAny_pure ?_) | skip
  refine wpAny_bind (wpAny_sequenceKey hl.typeIs (by decide) ?_)
  refine wpAny_bind (wpAny_callSpecial?_slot (name := Str.ofString "__setitem__") hl.typeIs slot_list_setitem
    (wpAny_call_entry slot_list_setitem hl.typeIs entry_list_setitem ?_ (args_list_setitem _ _ _)))
  show wpAny _ _ (Builtin.List.listSubscript? (.int k t) >>= _) _ _ s
  refine wpAny_bind (wpAny_listSubscript_int fit ?_)
  have hx : vs[vidx vs.length k]? = some vs[vidx vs.length k] := List.getElem?_eq_getElem hi
  have fin : ∀ j, j = vidx vs.length k → Q () { s with heap := s.heap.update l (Obj.mapSeq (·.setIfInBounds j v)) } := by
    rintro j rfl
    refine hQ _ (if (vs.toArray.setIfInBounds (vidx vs.length k) v).size == vs.toArray.size then n else n + 1) ?_ (Heap.SameBut.update ..)
    rw [Heap.get?_update_self _ ho (by simp [lobj, Obj.mapSeq, Obj.isFreed])]
    simp [lobj, Obj.mapSeq]
  cases k with
  | ofNat j =>
    have ej : vidx vs.length (Int.ofNat j) = j := by
      unfold vidx
      have : ¬ (Int.ofNat j < 0) := Int.not_lt.mpr (Int.natCast_nonneg j)
      rw [if_neg this]; rfl
    rw [ej] at hi
    have hx : vs[j]? = some vs[j] := List.getElem?_eq_getElem hi
    show wpAny _ _ ((seqItemAt l j >>= fun r => pure (r.map (j, ·))) >>= _) _ _ s
    refine wpAny_bind (wpAny_bind (wpAny_seqItemAt ho hd (wpAny_pure ?_)))
    have hx' : vs.toArray[j]? = some vs[j] := by simpa using hx
    rw [hx']
    show wpAny _ _ (setSeqItemAt l j v >>= _) _ _ s
    refine wpAny_bind (wpAny_setSeqItemAt ho hd ?_)
    first
      | exact wpAny_bind (wpAny_pure (wpAny_pure ⟨.none, rfl, wpAny_pure (fin j ej.symm)⟩))
      | exact wpAny_pure ⟨.none, rfl, wpAny_pure (fin j ej.symm)⟩
  | negSucc j =>
    show wpAny _ _ ((Builtin.List.listItems (.ref l) >>= fun xs => pure ((seqIndex? (Int.negSucc j) xs.size).bind fun i => xs[i]?.map (i, ·))) >>= _) _ _ s
    refine wpAny_bind (wpAny_bind ?_)
    show wpAny _ _ (seqItems? (.ref l) >>= _) _ _ s
    refine wpAny_bind (wpAny_seqItems ho hd (wpAny_pure (wpAny_pure ?_)))
    rw [List.size_toArray, hidx]
    have hx' : vs.toArray[vidx vs.length (Int.negSucc j)]? = some vs[vidx vs.length (Int.negSucc j)] := by simpa using hx
    simp only [Option.bind_some, hx', Option.map_some]
    show wpAny _ _ (setSeqItemAt l _ v >>= _) _ _ s
    refine wpAny_bind (wpAny_setSeqItemAt ho hd ?_)
    first
      | exact wpAny_bind (wpAny_pure (wpAny_pure ⟨.none, rfl, wpAny_pure (fin _ rfl)⟩))
      | exact wpAny_pure ⟨.none, rfl, wpAny_pure (fin _ rfl)⟩
section
variable {g : GI} {f : Fm} {n : Nat} {ρ : En}
def LName (f : Fm) (ρ : En) (x : Str) (ds : List V) : Prop := ∃ i : Nat, f.xs[i]? = some x ∧ (ρ[i]? = some (some (B.li ds)) ∨ ρ[i]? = some (some (B.bo ds)))
theorem LName.li {x : Str} {ds : List V} (i : Nat) (hx : f.xs[i]? = some x) (hb : ρ[i]? = some (some (.li ds))) : LName f ρ x ds := ⟨i, hx, .inl hb⟩
theorem lname_at {x : Str} {ds : List V} {np : Pos} {σ : Sp} {s : Shared} {Q : Value → Shared → Prop} {E : Value → Shared → Prop} (ok : FmOk g f n) (S : St g f σ ρ s.heap) (hl : LName f ρ x ds)
    (h : ∀ a vs m, s.heap.get? a = some (lobj vs m) → a ∉ f.fs → RepL g.C s.heap (XOf f σ ρ) ds vs → vs.length ≤ sizeLine → Q (.ref a) s) : wpAny (model g.prog g.w) f.A (eval (.Name x np) f.env) Q E s := by
  obtain ⟨i, hx, hb | hb⟩ := hl
  · obtain ⟨vs, m, ha, r, hl⟩ := S.li hb
    have fr := S.fresh i ⟨_, hb, rfl⟩
    exact ownName ok S hx hb rfl (h _ vs m ha (own_off ok fr.1 fr.2.1) r hl)
  · obtain ⟨m, hns, hv⟩ := S.ex
    have hm := List.mem_of_getElem? hx
    obtain ⟨a', vs, k, e, e0, e1, r, hl⟩ := hv i x _ (Fm.nmx hx) hb
    refine wpAny_Name (wpAny_loadName_local ok.kind (ok.loc x hm) hns e (h a' vs k ((S.kE a' _ e0).1 e1) (fun hmem => ?_) r hl)) (ok.ndx hm)
    rw [Fm.fs_eq] at hmem
    rcases List.mem_cons.mp hmem with z | z
    · rw [z, ok.newL] at e0; cases e0
    · exact e1 z
theorem Ev.subN {x : Str} {ds : List V} {np pos : Pos} {e : Expr} {i : Int} {d : V} (ok : FmOk g f n) (hl : LName f ρ x ds) (he : Ev g f ρ e (.ok (.int i))) (hd : ds[vidx ds.length i]? = some d) (h1 : -(ds.length : Int) ≤ i)
    (hs : ∀ o i, subscripted e false o i = operate [o, i] (getItem o i) := by intro _ _; rfl) : Ev g f ρ (.Subscript (.Name x np) e pos) (.ok d) := fun σ s Q E S q ex => by
  refine Subscript_ (lname_at ok S hl fun a vs m ha hf rl hz => ?_)
  refine he σ s _ _ S (fun u d' h₂ t₂ ed k₂ r₂ => ?_) fun c e' h' tk ec => nomatch ec
  injection ed with ed; subst ed
  simp only [Rep] at r₂
  obtain ⟨t, rfl⟩ := r₂
  have rl' : RepL g.C h₂ (XOf f σ ρ) ds vs := rl.mono (k₂.kx S.fsX) fun b m => .inl m
  have ha' := (k₂ a _ ha).1 hf
  obtain ⟨v, ev, rv⟩ := rl'.get hd
  have hlen : vs.length = ds.length := RepL.length rl
  have hb : ds.length ≤ 2 ^ 24 := by rw [← hlen]; exact hz
  have hi : vidx ds.length i < ds.length := (List.getElem?_eq_some_iff.mp hd).1
  refine tail_any (s := { s with heap := h₂, toks := t₂ }) (T := "list") ⟨_, ha', rfl⟩ slot_list_getitem.lookup ?_ (hs _ _)
  have hlist : h₂.IsList a vs.toArray := ⟨_, ha', rfl, m, rfl⟩
  unfold vidx at hi ev
  split at hi
  · rename_i hneg
    rw [if_pos hneg] at ev
    exact wpAny_getItem_list_neg (s := { s with heap := h₂, toks := t₂ }) hlist hneg (by simpa [hlen] using h1) (by omega) (x := v) (by simpa [hlen] using ev) (q v _ h₂ t₂ rfl k₂ rv)
  · rename_i hpos
    rw [if_neg hpos] at ev
    exact wpAny_getItem_list (s := { s with heap := h₂, toks := t₂ }) hlist (by omega) (by omega) (x := v) (by simpa using ev) (q v _ h₂ t₂ rfl k₂ rv)
theorem RepL.set {h : Heap} {X : Addr → Prop} {d : V} {v : Value} : ∀ {ds : List V} {vs : List Value}, RepL g.C h X ds vs → Rep g.C h X d v → ∀ i, RepL g.C h X (ds.set i d) (vs.set i v)
  | [], _, r, _, _ => by simp only [RepL] at r; subst r; simp [RepL]
  | e :: ds, _, r, q, i => by
    simp only [RepL] at r
    obtain ⟨u, t, rfl, r1, r2⟩ := r
    cases i with
    | zero => simp only [List.set_cons_zero, RepL]; exact ⟨v, t, rfl, q, r2⟩
    | succ i => simp only [List.set_cons_succ, RepL]; exact ⟨u, _, rfl, r1, RepL.set r2 q i⟩
theorem Ex.store {x : Str} {np sp pos : Pos} {ei e : Expr} {rest : List Stmt} {ds : List V} {i : Int} {d : V} {O : Out → Prop} (ok : FmOk g f n) (j : Nat) (hx : f.xs[j]? = some x) (hb : ρ[j]? = some (some (.li ds))) (he : Ev g f ρ e (.ok d)) (hi : Ev g f ρ ei (.ok (.int i)))
    (hr : vidx ds.length i < ds.length) (h1 : -(ds.length : Int) ≤ i) (h : Ex g f (ρ.set j (some (.li (ds.set (vidx ds.length i) d)))) rest O)
    (hs : swapsWith e (some (.Subscript (.Name x np) ei sp)) pos.line f.env = pure false := by rfl) : Ex g f ρ (.Assign [.Subscript (.Name x np) ei sp] e pos :: rest) O := fun σ s Q E S q ex => by
  refine wpAny_execs_cons (wpAny_Assign_Subscript (he σ s _ _ S (fun v d' h₁ t₁ ed k₁ r₁ => ?_) fun c e' h' tk ec => nomatch ec) hs)
  injection ed with ed; subst ed
  have S₁ := S.mono ok k₁
  refine ownName (s := { s with heap := h₁, toks := t₁ }) ok S₁ hx hb rfl ?_
  refine hi σ _ _ _ S₁ (fun u d' h₂ t₂ ed k₂ r₂ => ?_) fun c e' h' tk ec => nomatch ec
  injection ed with ed; subst ed
  simp only [Rep] at r₂
  obtain ⟨t, rfl⟩ := r₂
  have S₂ := S₁.mono ok k₂
  obtain ⟨vs, m, ha, rl, hz⟩ := S₂.li hb
  have hlen : vs.length = ds.length := RepL.length rl
  refine setItem_exact (s := { s with heap := h₂, toks := t₂ }) ha (by rw [hlen]; exact hr) (by rw [hlen]; exact h1) hz fun h₃ m' ha' hs' => ?_
  have aX : XOf f σ ρ (σ.α j) := .inr (.inr ⟨j, ⟨_, hb, rfl⟩, rfl⟩)
  have kx : KX (XOf f σ ρ) h₂ h₃ := fun c o ec nc => (hs'.2 c fun z => nc (z ▸ aX)).trans ec
  have r₁' := rmono S r₁ k₂
  obtain ⟨S₃, T₃⟩ := S₂.turn ok hb rfl (b' := .li (ds.set (vidx ds.length i) d)) rfl hs' fun m₀ x₀ a₀ hv₀ ea => by
    subst ea
    refine ⟨hv₀.1, vs.set (vidx vs.length i) v, m', ha', ?_, by rw [List.length_set]; exact hz⟩
    have sub : ∀ b, XOf f σ (ρ.set j (some (.li (ds.set (vidx ds.length i) d)))) b → XOf f σ ρ b ∨ h₂.get? b = none := fun b hb' => .inl ((X_set hb rfl rfl b).mp hb')
    rw [hlen]
    exact (RepL.set rl r₁' _).mono kx sub
  exact Ex.after (σ := σ) (ρ := ρ) (s := s) h S₃ ((k₁.trans k₂).trn.trans T₃) q ex
end
def FnB (g : GI) (n : Nat) (fv : Value) (ds es : List V) (r : Res) : Prop :=
  ∀ (A : Around) (l : List Env) (Y : Addr → Prop) (vs us : List Value) (a : Addr) (mm : Nat) (s : Shared) (R : Result → Shared → Prop), g.Ok → A.frames = some l → A.handled = none → Room A n →
    CallSt g l s.heap → (∀ b ∈ fsOf l, Y b) → (∀ b, Y b → ∃ o, s.heap.get? b = some o) → (∀ b, Y b → g.H0.get? b = none) → RepL g.C s.heap Y ds vs → s.heap.get? a = some (lobj us mm) → a ∉ fsOf l → RepL g.C s.heap Y es us → us.length ≤ sizeLine →
    (∀ v d h' tk, r = .ok d → Kf (fsOf l) s.heap h' → Rep g.C h' Y d v → R (.ok (.ret v)) { s with heap := h', toks := tk }) →
    (∀ c e a0 h' tk, r = .exc c → Kf (fsOf l) s.heap h' → Heap.FlyingW (hideAll s.heap (fsOf l)) l e c a0 h' → R (.error (.ref e)) { s with heap := h', toks := tk }) →
    codeAny (model g.prog g.w) A (.call fv ⟨vs ++ [.ref a], []⟩) R s
def boEn (k : Nat) (ds es : List V) : En := ds.map (fun d => some (B.sh d)) ++ some (B.bo es) :: List.replicate k none
section
variable {g : GI} {f : Fm} {n m : Nat} {ρ : En}
end
def compFm (f : Fm) (scope : Scope) (cl : List (Str × Addr)) (C : Addr) (h₁ : Heap) (x : Str) (ys : List Str) : Fm :=
  ⟨compEnvC scope cl C f.env, f.A, f.stack, { f.env with frame := some f.L } :: f.outer, h₁, [x], ys⟩
theorem compFm_fs (f : Fm) (scope : Scope) (cl : List (Str × Addr)) (C : Addr) (h₁ : Heap) (x : Str) (ys : List Str) : (compFm f scope cl C h₁ x ys).fs = C :: f.fs := rfl
structure CompS (f : Fm) (scope : Scope) (x : Str) (ys : List Str) : Prop where
  cell : ∀ y ∈ scope.names, y.2 ≠ .cell
  kind : scope.kind = .function
  names : ∀ y ∈ scope.names, y.2 = .local → scope.names.lookup y.1 = some .local
  hx : scope.names.lookup x = some .local
  nd : (x :: ys).Nodup
  dx : ∀ y ∈ x :: ys, (y == ("__debug__" : Str)) = false
  cel : ∀ y ∈ ys, (relabel scope f.env).names.lookup y = some .cell
def FreeOk (g : GI) (f : Fm) (σ : Sp) (ρ : En) (scope : Scope) (cl : List (Str × Addr)) (ys : List Str) (fr : List V) (h : Heap) : Prop :=
  closureFor scope f.env = pure cl ∧ fr.length ≤ ys.length ∧ ∀ (j : Nat) (y : Str) (d : V), ys[j]? = some y → fr[j]? = some d → ∃ c v, cl.lookup y = some c ∧ h.IsCell c (some v) ∧ c ∉ f.fs ∧ Rep g.C h (XOf f σ ρ) d v
section
variable {g : GI} {f : Fm} {n : Nat} {ρ : En}
theorem frEn_get {fr : List V} {j : Nat} {b : B} (h : (fr.map fun d => some (B.bc d))[j]? = some (some b)) : ∃ d, fr[j]? = some d ∧ b = .bc d := by
  simp only [List.getElem?_map] at h
  cases q : fr[j]? with
  | none => rw [q] at h; cases h
  | some d => rw [q] at h; simp at h; exact ⟨d, rfl, h.symm⟩
theorem compEn_own {d : V} {fr : List V} {i : Nat} : ¬ Own (some (B.sh d) :: fr.map fun d => some (B.bc d)) i := by
  rintro ⟨b, hb, ho⟩
  cases i with
  | zero => simp at hb; subst hb; cases ho
  | succ j => simp only [List.getElem?_cons_succ] at hb; obtain ⟨d, _, rfl⟩ := frEn_get hb; cases ho
theorem comp_core {x : Str} {px pos : Pos} {iter elt : Expr} {scope : Scope} {ys : List Str} {cl : List (Str × Addr)} {fr items es : List V} {σ : Sp} {s : Shared} {I : Addr} {h₁ h₂ : Heap} {tk : Nat} {fp : List Addr} {P : Nat → Value → Prop} {Stt : Nat → Heap → Prop}
    {RR : Value → Addr → Result → Shared → Prop} {E : Value → Shared → Prop}
    (ok : FmOk g f n) (sc : CompS f scope x ys) (S₁ : St g f σ ρ h₁) (k₂ : Kf f.fs h₁ h₂) (hI : h₁.get? I = none) (exI : ∀ i h, Stt i h → ∃ o, h.get? I = some o) (W : Walks g.prog g.w f.A I fp [I] items.length P Stt) (st0 : Stt 0 h₂)
    (hfp : ∀ b ∈ fp, b = I ∨ (¬ XOf f σ ρ b ∧ ∃ o, h₁.get? b = some o)) (hP : ∀ i v d, P i v → items[i]? = some d → Rep g.C h₁ (XOf f σ ρ) d v)
    (hfr : FreeOk g f σ ρ scope cl ys fr h₁) (hlen : items.length ≤ sizeLine) (hes : es.length = items.length)
    (helt : ∀ (k : Nat) (d e : V), items[k]? = some d → es[k]? = some e → ∀ f' : Fm, FmOk g f' n → f'.env.scope = relabel scope f.env → f'.xs = [x] → f'.ys = ys → Ev g f' (some (.sh d) :: fr.map fun d => some (.bc d)) elt (.ok e))
    (hR : ∀ D C h' tk' m' vs c, h₁.get? D = none → h₁.get? C = none → D ≠ C → h'.Ns C m' → Kf f.fs h₁ h' → h'.get? D = some (lobj vs c) → RepL g.C h' (fun b => XOf f σ ρ b ∨ b = D ∨ b = C) es vs → vs.length = items.length → RR (.ref D) C (.ok .next) { s with heap := h', toks := tk' }) :
    wpAny (model g.prog g.w) f.A (newList []) (fun acc s₃ => wpAny (model g.prog g.w) f.A (newFunctionEnv scope f.env.globals cl [] f.env.qual none .none (some f.env)) (fun cenv s₄ =>
      codeAny (model g.prog g.w) f.A (.compStart (.ListComp elt [⟨.Name x px, iter, [], 0⟩] scope pos) 0 (.ref I) acc { cenv with scope := relabel scope f.env }) (RR acc cenv.locals) s₄) E s₃) E { s with heap := h₂, toks := tk } := by
  refine wpAny_newObj_type (wpAny_newFunctionEnv sc.cell (by intro y hy; simp at hy) (fun h₃ hns₃ hsb₃ => ?_) sc.kind)
  dsimp only at hns₃ hsb₃ ⊢
  generalize hH2 : h₂.push { cls := .type "list", dict := none, data := .seq ([] : List Value).toArray } = H2 at hns₃ hsb₃ ⊢
  have hC : H2.objs.size = h₂.objs.size + 1 := by rw [← hH2, Heap.size_push]
  have hDC : h₂.objs.size ≠ H2.objs.size := by rw [hC]; exact Nat.ne_of_lt (Nat.lt_succ_self _)
  have below : ∀ b, b < h₂.objs.size → b ≠ H2.objs.size := fun b hb => by rw [hC]; exact Nat.ne_of_lt (Nat.lt_succ_of_lt hb)
  have old : ∀ b o, h₂.get? b = some o → h₃.get? b = some o := fun b o e => hsb₃.extBut b o (below b (Heap.lt_size e)) (Heap.get?_push_of_some _ (hH2 ▸ Heap.get?_push_of_some _ e))
  have hacc : h₃.get? h₂.objs.size = some (lobj [] 0) := hsb₃.extBut _ _ hDC (Heap.get?_push_of_some _ (hH2 ▸ Heap.get?_push_size _ rfl))
  have nD2 : h₂.get? h₂.objs.size = none := none_of_ge (Nat.le_refl _)
  have nC2 : h₂.get? H2.objs.size = none := none_of_ge (by rw [hC]; exact Nat.le_succ _)
  have h12 : ∀ {a}, h₂.get? a = none → h₁.get? a = none := fun {a} e => by
    cases z : h₁.get? a with
    | none => rfl
    | some o => obtain ⟨_, q⟩ := (k₂ a o z).2; rw [e] at q; cases q
  have h01 : ∀ {a}, h₁.get? a = none → g.H0.get? a = none := fun {a} e => by
    cases z : g.H0.get? a with
    | none => rfl
    | some o => rw [S₁.cs.keep a o z] at e; cases e
  have nD := h12 nD2
  have nC := h12 nC2
  generalize hDe : h₂.objs.size = D at *
  generalize hCe : H2.objs.size = C at *
  have hID : I ≠ D := fun z => by
    obtain ⟨o, e⟩ := exI 0 _ st0; rw [z, nD2] at e; cases e
  have hIC : I ≠ C := fun z => by
    obtain ⟨o, e⟩ := exI 0 _ st0; rw [z, nC2] at e; cases e
  let f' := compFm f scope cl C h₁ x ys
  have fsEx : ∀ b ∈ f.fs, ∃ o, h₁.get? b = some o := fun b hb => S₁.Xex (S₁.fsX b hb)
  have off : ∀ a, h₁.get? a = none → a ∉ f.fs := fun a e m => by obtain ⟨o, q⟩ := fsEx a m; rw [e] at q; cases q
  have cs' : ∀ {h}, Kf f.fs h₁ h → CallSt g f'.outer h := fun {h} k => by
    have c := S₁.cs.mono (fs_none0 ok S₁.cs) k
    refine ⟨c.keep, ?_⟩
    obtain ⟨m, ⟨oL, es, ep, hL, hd, _⟩, _⟩ := S₁.ex
    obtain ⟨sl, q⟩ := (k _ _ hL).2
    exact ⟨by show f.env.scope.kind ≠ .module; rw [ok.kind]; decide, ⟨f.L, _, rfl, ok.newL0, q, fun vs q => by simp only at q; rw [hd] at q; cases q⟩, c.ff⟩
  have ok' : FmOk g f' n := {
    G := ok.G
    fr := ok.fr
    hd := ok.hd
    room := ok.room
    kind := sc.kind
    eG := ok.eG
    eB := ok.eB
    stk := fun h _ ff => by
      obtain ⟨_, ⟨L', o, e1, _, e2, e3⟩, e4⟩ := ff
      injection e1 with e1; subst e1
      exact ok.stk h ⟨o, e2, e3⟩ e4
    sub := fun b hb => .tail _ (ok.sub b hb)
    big := by
      show g.top ≤ C
      have := ok.G.big (ok.G.X.keeps S₁.cs.keep)
      rw [hC, ← hDe]
      refine Nat.le_succ_of_le (ok.G.big (ok.G.X.keeps fun b o e => ?_))
      exact (k₂ b o (S₁.cs.keep b o e)).1 fun m => by rw [fs_none0 ok S₁.cs b m] at e; cases e
    newL := nC
    newL0 := h01 nC
    nodup := sc.nd
    loc := fun y hy => by
      have : y = x := by simpa [f', compFm] using hy
      subst this
      exact lookup_relabel_local sc.hx
    cel := sc.cel
    ndb := sc.dx
    csE := cs' (Kf.refl _ _) }
  have X'X : ∀ {d : V} b, XOf f' ⟨fun b => XOf f σ ρ b ∨ b = I ∨ b = D, fun _ => 0⟩ (some (.sh d) :: fr.map fun d => some (.bc d)) b → XOf f σ ρ b ∨ h₁.get? b = none := fun {d} b hb => by
    rcases hb with (hb | rfl | rfl) | hb | ⟨i, hi, _⟩
    · exact .inl hb
    · exact .inr hI
    · exact .inr nD
    · exact .inr (hb ▸ nC)
    · exact (compEn_own hi).elim
  have st' : ∀ {d : V} {v : Value} {h : Heap} {m : Str → Option Value} , Kf f.fs h₁ h → h.Ns C m → m x = some v → Rep g.C h₁ (XOf f σ ρ) d v → (∃ o, h.get? I = some o) → (∃ o, h.get? D = some o) →
      St g f' ⟨fun b => XOf f σ ρ b ∨ b = I ∨ b = D, fun _ => 0⟩ (some (.sh d) :: fr.map fun d => some (.bc d)) h := fun {d v h m} k hns hm r eI eD => by
    have up : ∀ {d' : V} {v' : Value}, Rep g.C h₁ (XOf f σ ρ) d' v' → Rep g.C h (XOf f' ⟨fun b => XOf f σ ρ b ∨ b = I ∨ b = D, fun _ => 0⟩ (some (.sh d) :: fr.map fun d => some (.bc d))) d' v' := fun r => r.mono (k.kx S₁.fsX) X'X
    refine ⟨⟨m, hns, fun i y b hy hb => ?_⟩, cs' k, k, fun i j hi => (compEn_own hi).elim, fun i hi => (compEn_own hi).elim, ?_, fun b hb => .inl (S₁.fsX b hb), fun b hb => ?_, fun i hi => (compEn_own hi).elim, fun b hb => by
      rcases hb with hb | rfl | rfl
      · exact S₁.X0 ok hb
      · exact h01 hI
      · exact h01 nD⟩
    · cases i with
      | zero =>
        simp at hb; subst hb
        have : y = x := by
          have : (x :: ys)[0]? = some y := hy
          simpa using this.symm
        subst this
        exact ⟨v, hm, up r⟩
      | succ j =>
        simp only [List.getElem?_cons_succ] at hb
        obtain ⟨d', e, rfl⟩ := frEn_get hb
        have hy' : ys[j]? = some y := by
          have : (x :: ys)[j + 1]? = some y := hy
          simpa using this
        obtain ⟨c, v', e1, e2, e3, e4⟩ := hfr.2.2 j y d' hy' e
        exact ⟨c, v', e1, e2, e3, up e4⟩
    · show _ ≤ (x :: ys).length
      have := hfr.2.1
      simp; omega
    · rcases hb with hb | rfl | rfl
      · obtain ⟨o, e⟩ := S₁.Xex hb; obtain ⟨_, q⟩ := (k b o e).2; exact ⟨_, q⟩
      · exact eI
      · exact eD
  have upD : ∀ b, b ∈ f'.fs → b = C ∨ b ∈ f.fs := fun b hb => by
    rw [compFm_fs] at hb; exact List.mem_cons.mp hb
  have loop : ∀ s₃ : Shared, s₃ = { s with heap := h₃, toks := tk + ([] : List (Str × Value)).length } →
      codeAny (model g.prog g.w) f.A (.compLoop (.ListComp elt [⟨.Name x px, iter, [], 0⟩] scope pos) 0 (.ref I) (.ref D) (compEnvC scope cl C f.env)) (RR (.ref D) C) s₃ := by
    rintro s₃ rfl
    refine codeAny_compLoop_tests (fun c s' => ∃ (k : Nat) (h : Heap) (tk' : Nat) (m : Str → Option Value) (vs : List Value) (cc : Nat), s' = { s with heap := h, toks := tk' } ∧ k ≤ items.length ∧ c = items.length - k ∧ vs.length = k ∧
        Kf f.fs h₁ h ∧ Stt k h ∧ h.Ns C m ∧ h.get? D = some (lobj vs cc) ∧ RepL g.C h (fun b => XOf f σ ρ b ∨ b = D ∨ b = C ∨ b = I) (es.take k) vs) ?_ items.length
      ⟨0, h₃, _, _, [], 0, rfl, Nat.zero_le _, rfl, rfl, k₂.trans (Kf.of_keeps old), W.frame _ _ _ st0 fun b _ o e => old b o e, hns₃, hacc, by simp [RepL]⟩
    rintro c s' ⟨k, h, tk', m, vs, cc, rfl, hk, rfl, hvl, K, st, hns, hD, rl⟩
    by_cases hlt : k < items.length
    · refine W.item k { s with heap := h, toks := tk' } _ _ hlt st fun v h₄ tk₄ hPv st₄ hk₄ => ?_
      have hd : items[k]? = some items[k] := List.getElem?_eq_getElem hlt
      have he : es[k]? = some es[k] := List.getElem?_eq_getElem (by omega)
      have keep₄ : ∀ b o, b ≠ I → h.get? b = some o → h₄.get? b = some o := fun b o hb e => hk₄ b o (by simpa using hb) e
      have kI : ∀ {h h' : Heap}, Kf f.fs h₁ h → (∀ b o, b ≠ I → h.get? b = some o → h'.get? b = some o) → Kf f.fs h₁ h' := fun {h h'} K kp b o e => by
        have hb : b ≠ I := fun z => by rw [z, hI] at e; cases e
        obtain ⟨p, sl, q⟩ := K b o e
        exact ⟨fun nb => kp b o hb (p nb), sl, kp b _ hb q⟩
      have K₄ := kI K keep₄
      have ns₄ : h₄.Ns C m := by
        obtain ⟨oL, q1, q2, q3, q4⟩ := hns
        exact ⟨oL, q1, q2, keep₄ _ _ (Ne.symm hIC) q3, q4⟩
      refine wpAny_assign_Name (wpAny_storeName_local (env := compEnvC scope cl C f.env) (lookup_relabel_local sc.hx) ns₄ (fun h₅ ns₅ sb₅ => ?_) (by show (scope.kind == .class || _) = false; simp [compEnvC, relabel, sc.kind]))
      have sb₅' : Heap.SameBut C h₄ h₅ := sb₅
      have keep₅ : ∀ b o, b ≠ C → h₄.get? b = some o → h₅.get? b = some o := fun b o hb e => (sb₅'.2 b hb).trans e
      have K₅ : Kf f.fs h₁ h₅ := fun b o e => by
        have hb : b ≠ C := fun z => by rw [z, nC] at e; cases e
        obtain ⟨p, sl, q⟩ := K₄ b o e
        exact ⟨fun nb => keep₅ b o hb (p nb), sl, keep₅ b _ hb q⟩
      have D₅ : h₅.get? D = some (lobj vs cc) := keep₅ _ _ hDC (keep₄ _ _ (Ne.symm hID) hD)
      obtain ⟨oI, eI⟩ := exI _ _ st₄
      have I₅ : h₅.get? I = some oI := keep₅ _ _ hIC eI
      have S₅ := st' K₅ ns₅ (by simp) (hP k v _ hPv hd) ⟨_, I₅⟩ ⟨_, D₅⟩
      have st₅ : Stt (k + 1) h₅ := W.frame _ _ _ st₄ fun b hb o e => keep₅ b o (fun z => by
        rcases hfp b hb with z' | ⟨_, o', z'⟩
        · exact hIC (z' ▸ z)
        · rw [z, nC] at z'; cases z') e
      simp only [List.forIn_nil]
      refine wpAny_pure ?_
      simp only [if_true]
      refine helt k _ _ hd he f' ok' rfl rfl rfl _ { s with heap := h₅, toks := tk₄ + 1 } _ _ S₅ (fun y e' h₆ tk₆ ee k₆ r₆ => ?_) fun c e' h' tk ec => nomatch ec
      injection ee with ee; subst ee
      have keep₆ : ∀ b o, b ≠ C → b ∉ f.fs → h₅.get? b = some o → h₆.get? b = some o := fun b o n1 n2 e => (k₆ b o e).1 fun m => (upD b m).elim n1 n2
      have K₆ : Kf f.fs h₁ h₆ := fun b o e => by
        have hb : b ≠ C := fun z => by rw [z, nC] at e; cases e
        obtain ⟨p, sl, q⟩ := K₅ b o e
        refine ⟨fun nb => keep₆ b o hb nb (p nb), ?_⟩
        obtain ⟨sl', q'⟩ := (k₆ b _ q).2
        exact ⟨sl', by simpa using q'⟩
      have D₆ := keep₆ _ _ hDC (off D nD) D₅
      refine wpAny_list_append_plain (s := { s with heap := h₆, toks := tk₆ }) (items := vs.toArray) ⟨cc, D₆⟩ (fun h₇ ⟨c₇, D₇⟩ sb₇ => ?_) (by simp; omega)
      have sb₇' : Heap.SameBut D h₆ h₇ := sb₇
      have keep₇ : ∀ b o, b ≠ D → h₆.get? b = some o → h₇.get? b = some o := fun b o hb e => (sb₇'.2 b hb).trans e
      have K₇ : Kf f.fs h₁ h₇ := fun b o e => by
        have hb : b ≠ D := fun z => by rw [z, nD] at e; cases e
        obtain ⟨p, sl, q⟩ := K₆ b o e
        exact ⟨fun nb => keep₇ b o hb (p nb), sl, keep₇ b _ hb q⟩
      have ns₇ : ∃ m', h₇.Ns C m' := by
        have n6 := k₆.ns ns₅
        obtain ⟨oL, q1, q2, q3, q4⟩ := n6
        exact ⟨_, oL, q1, q2, keep₇ _ _ (Ne.symm hDC) q3, q4⟩
      obtain ⟨m₇, ns₇⟩ := ns₇
      refine ⟨items.length - (k + 1), Nat.sub_succ_lt_self _ _ hlt, k + 1, h₇, tk₆, m₇, vs ++ [y], c₇, rfl, hlt, rfl, by simp [hvl], K₇, ?_, ns₇, by rw [D₇]; simp [lobj], ?_⟩
      · refine W.frame _ _ _ st₅ fun b hb o e => ?_
        rcases hfp b hb with z | ⟨nx, o', z⟩
        · subst z; exact keep₇ b o hID (keep₆ b o hIC (off _ hI) e)
        · exact keep₇ b o (fun z' => by rw [z', nD] at z; cases z) (keep₆ b o (fun z' => by rw [z', nC] at z; cases z) (fun m => nx (S₁.fsX b m)) e)
      · have et : es.take (k + 1) = es.take k ++ [es[k]] := by
          rw [List.take_add_one, he]; rfl
        rw [et]
        refine RepL.append (rl.mono (fun b o e nx => ?_) fun b m => .inl m) ?_
        · have n1 : b ≠ D := fun z => nx (.inr (.inl z))
          have n2 : b ≠ C := fun z => nx (.inr (.inr (.inl z)))
          have n3 : b ≠ I := fun z => nx (.inr (.inr (.inr z)))
          exact keep₇ b o n1 (keep₆ b o n2 (fun m => nx (.inl (S₁.fsX b m))) (keep₅ b o n2 (keep₄ b o n3 e)))
        · simp only [RepL]
          refine ⟨y, [], rfl, r₆.mono (fun b o e nx => keep₇ b o (fun z => nx (.inl (.inr (.inr z)))) e) fun b m => .inl ?_, rfl⟩
          rcases m with m | m | m | m
          · exact .inl (.inl m)
          · exact .inl (.inr (.inr m))
          · exact .inr (.inl m)
          · exact .inl (.inr (.inl m))
    · have hke : k = items.length := by omega
      subst hke
      refine W.done { s with heap := h, toks := tk' } _ _ st fun h₄ tk₄ hk₄ => ?_
      have keep₄ : ∀ b o, b ≠ I → h.get? b = some o → h₄.get? b = some o := fun b o hb e => hk₄ b o (by simpa using hb) e
      obtain ⟨oL, q1, q2, q3, q4⟩ := hns
      refine hR D C h₄ tk₄ m vs cc nD nC hDC ⟨oL, q1, q2, keep₄ _ _ (Ne.symm hIC) q3, q4⟩ (fun b o e => ?_) (keep₄ _ _ (Ne.symm hID) hD) ?_ hvl
      · have hb : b ≠ I := fun z => by rw [z, hI] at e; cases e
        obtain ⟨p, sl, q⟩ := K b o e
        exact ⟨fun nb => keep₄ b o hb (p nb), sl, keep₄ b _ hb q⟩
      · have : es.take items.length = es := by rw [← hes, List.take_length]
        rw [this] at rl
        refine rl.mono (fun b o e nx => keep₄ b o (fun z => nx (.inr (.inr (.inr z)))) e) fun b m => .inl ?_
        rcases m with m | m | m
        · exact .inl m
        · exact .inr (.inl m)
        · exact .inr (.inr (.inl m))
  exact codeAny_compStart_list (loop _ rfl) (W.self 0 _ _ _ (W.frame _ _ _ st0 fun b _ o e => old b o e) (loop _ rfl))
end
section
variable {g : GI} {f : Fm} {n : Nat} {ρ : En}
structure CompOk (g : GI) (f : Fm) (n : Nat) (ρ : En) (x : Str) (iter elt : Expr) (scope : Scope) (es : List V) : Prop where
  sc : ∃ (items fr : List V) (ys : List Str) (cl : List (Str × Addr)), CompS f scope x ys ∧ ItSrc g f ρ iter items ∧ items.length ≤ sizeLine ∧ es.length = items.length ∧
    (∀ σ h, St g f σ ρ h → FreeOk g f σ ρ scope cl ys fr h) ∧
    (∀ (k : Nat) (d e : V), items[k]? = some d → es[k]? = some e → ∀ f' : Fm, FmOk g f' n → f'.env.scope = relabel scope f.env → f'.xs = [x] → f'.ys = ys → Ev g f' (some (.sh d) :: fr.map fun d => some (.bc d)) elt (.ok e))
  hs : ∀ x, foldedSetIterable iter f.env x = pure x
theorem CompOk.plain {x : Str} {iter elt : Expr} {scope : Scope} {items es : List V} (sc : CompS f scope x []) (hfree : ∀ y ∈ scope.names, y.2 ≠ .free) (hi : ItSrc g f ρ iter items) (hlen : items.length ≤ sizeLine) (hes : es.length = items.length)
    (he : ∀ (k : Nat) (d e : V), items[k]? = some d → es[k]? = some e → ∀ f' : Fm, FmOk g f' n → f'.env.scope = relabel scope f.env → f'.xs = [x] → f'.ys = [] → Ev g f' [some (.sh d)] elt (.ok e))
    (hs : ∀ x, foldedSetIterable iter f.env x = pure x := by intro _; rfl) : CompOk g f n ρ x iter elt scope es where
  sc := ⟨items, [], [], [], sc, hi, hlen, hes, fun σ h _ => ⟨closureFor_none hfree, Nat.le_refl _, fun j y d hy => by simp at hy⟩, he⟩
  hs := hs
theorem comp_val {x : Str} {px pos : Pos} {iter elt : Expr} {scope : Scope} {es : List V} {σ : Sp} {s : Shared} {Q : Value → Shared → Prop} {E : Value → Shared → Prop} (ok : FmOk g f n) (S : St g f σ ρ s.heap) (hc : CompOk g f n ρ x iter elt scope es)
    (q : ∀ D h' tk vs c, Kf f.fs s.heap h' → s.heap.get? D = none → h'.get? D = some (lobj vs c) → RepL g.C h' (fun b => XOf f σ ρ b ∨ b = D) es vs → vs.length ≤ sizeLine → Q (.ref D) { s with heap := h', toks := tk }) :
    wpAny (model g.prog g.w) f.A (eval (.ListComp elt [⟨.Name x px, iter, [], 0⟩] scope pos) f.env) Q E s := by
  obtain ⟨⟨items, fr, ys, cl, sc, hi, hlen, hes, hfr, he⟩, hs⟩ := hc
  rw [eval_ListComp]
  have hcl := (hfr σ _ S).1
  refine wpAny_comprehension_free (use := none) rfl hs hcl sc.kind sc.names (hi σ s _ E S fun I h₁ h₂ tk fp P Stt k₁ k₂ hI exI W st0 hfp hP => ?_)
  have S₁ := S.mono ok k₁
  have hfr₁ := hfr σ _ S₁
  refine comp_core (s := s) (RR := fun acc C => compPost (model g.prog g.w) f.A E none Q acc C) ok sc S₁ k₂ hI exI W st0 hfp hP hfr₁ hlen hes he fun D C h' tk' m' vs c nD nC hDC hn K hD rl hvl => ?_
  refine ⟨m', hn, fun h'' sb => q D h'' tk' vs c (k₁.trans fun b o e => ?_) ?_ ((sb.2 D hDC).trans hD) (rl.mono (fun b o e nx => (sb.2 b fun z => nx (.inr (.inr z))).trans e) fun b m => .inl ?_) (by omega)⟩
  · have hb : b ≠ C := fun z => by rw [z, nC] at e; cases e
    obtain ⟨p, sl, q⟩ := K b o e
    exact ⟨fun nb => (sb.2 b hb).trans (p nb), sl, (sb.2 b hb).trans q⟩
  · cases z : s.heap.get? D with
    | none => rfl
    | some o => obtain ⟨_, q⟩ := (k₁ D o z).2; rw [nD] at q; cases q
  · exact m.elim .inl fun m => .inr (.inl m)
theorem Ev.comp {x : Str} {px pos : Pos} {iter elt : Expr} {scope : Scope} {es : List V} (ok : FmOk g f n) (hc : CompOk g f n ρ x iter elt scope es) : Ev g f ρ (.ListComp elt [⟨.Name x px, iter, [], 0⟩] scope pos) (.ok (.list es)) := fun σ s Q E S q ex =>
  comp_val ok S hc fun D h' tk vs c k nD hD rl hz => q _ _ h' tk rfl k (by
    simp only [Rep]
    exact ⟨D, vs, c, rfl, ⟨hD, S.fresh_off nD⟩, rl.mono (KX.refl _ _) fun b m => .inl (.inl m), hz⟩)
theorem ff_of {base h h' : Heap} : ∀ {l : List Env}, h.FunFrames base l → (∀ b ∈ fsOf l, ∀ o, h.get? b = some o → ∃ sl, h'.get? b = some { o with slots := sl }) → h'.FunFrames base l
  | [], _, _ => trivial
  | env :: r, hf, k => by
    obtain ⟨a1, ⟨L', o, q1, q2, q3, q4⟩, a3⟩ := hf
    have e : fsOf (env :: r) = L' :: fsOf r := by unfold fsOf; rw [List.filterMap_cons, q1]
    obtain ⟨sl, q⟩ := k L' (by rw [e]; exact .head _) o q3
    exact ⟨a1, ⟨L', _, q1, q2, q, q4⟩, ff_of a3 fun b hb => k b (by rw [e]; exact .tail _ hb)⟩
theorem ns_unique {h : Heap} {a : Addr} {m m' : Str → Option Value} (x : h.Ns a m) (y : h.Ns a m') : m = m' := by
  obtain ⟨o, es, ep, e1, e2, _, e3⟩ := x
  obtain ⟨o', es', ep', e1', e2', _, e3'⟩ := y
  rw [e1] at e1'; injection e1' with e1'; subst e1'
  rw [e2] at e2'; injection e2' with e2' _; subst e2'
  exact funext fun n => (e3 n).symm.trans (e3' n)
theorem St.bind {x : Str} {i : Nat} {b : B} {σ σ' : Sp} {h0 h' : Heap} (ok : FmOk g f n) (S : St g f σ ρ h0) (hx : f.nm[i]? = some x)
    (k : ∀ b o, b ≠ f.L → h0.get? b = some o → (b ∉ f.fs → h'.get? b = some o) ∧ ∃ sl, h'.get? b = some { o with slots := sl })
    (hα : ∀ j, j ≠ i → σ'.α j = σ.α j) (hY : σ'.Y = σ.Y)
    (hown : b.owns = true → (f.hE.get? (σ'.α i) = none ∧ σ'.α i ≠ f.L ∧ g.H0.get? (σ'.α i) = none) ∧ h0.get? (σ'.α i) = none)
    (hns : ∀ m, h0.Ns f.L m → ∃ m', h'.Ns f.L m' ∧ (∀ y, y ≠ x → m' y = m y) ∧ VarOk g f h' (XOf f σ' (ρ.set i (some b))) m' (σ'.α i) x b) :
    St g f σ' (ρ.set i (some b)) h' ∧ Trn f σ ρ h0 σ' (ρ.set i (some b)) h' := by
  obtain ⟨m, hns0, hvar⟩ := S.ex
  obtain ⟨m', hns', hm', hv'⟩ := hns m hns0
  have ownSet : ∀ {j}, Own (ρ.set i (some b)) j → (j = i ∧ b.owns = true) ∨ (j ≠ i ∧ Own ρ j) := fun {j} hj => by
    obtain ⟨b', hb, ho⟩ := hj
    rcases set_get hb with ⟨e, e'⟩ | ⟨e, e'⟩
    · injection e' with e'; subst e'; exact .inl ⟨e, ho⟩
    · exact .inr ⟨e, b', e', ho⟩
  have ownThere : ∀ {j}, Own ρ j → ∃ o, h0.get? (σ.α j) = some o := fun {j} hj => by
    obtain ⟨b', hb, ho⟩ := hj
    have hl : j < f.nm.length := Nat.lt_of_lt_of_le (List.getElem?_eq_some_iff.mp hb).1 S.len
    exact (hvar j _ b' (List.getElem?_eq_getElem hl) hb).there ho
  have exL : ∃ o, h'.get? f.L = some o := by obtain ⟨o', _, _, e', _⟩ := hns'; exact ⟨o', e'⟩
  have T : Trn f σ ρ h0 σ' (ρ.set i (some b)) h' := by
    refine ⟨fun c o hc hf _ => (k c o (fun z => hf (by rw [z, Fm.fs_eq]; exact .head _)) hc).1 hf, fun c o hc hf => ?_, fun c hc => ?_, hY⟩
    · by_cases z : c = f.L
      · subst z; exact exL
      · obtain ⟨_, q⟩ := (k c o z hc).2; exact ⟨_, q⟩
    · obtain ⟨l, hl, hc⟩ := hc
      rcases ownSet hl with ⟨rfl, ho⟩ | ⟨hne, ho⟩
      · right; rw [hc]; exact (hown ho).2
      · left; exact ⟨l, ho, by rw [hc, hα l hne]⟩
  refine ⟨⟨⟨_, hns', fun j y b' hy hb => ?_⟩, ⟨fun c o e => ?_, ?_⟩, fun c o e => ?_, ?_, ?_, by rw [List.length_set]; exact S.len, by rw [hY]; exact S.Yfs, fun c hc => ?_, fun j hj m => ?_, by rw [hY]; exact S.Y0⟩, T⟩
  · rcases set_get hb with ⟨e, e'⟩ | ⟨e, e'⟩
    · subst e
      injection e' with e'; subst e'
      rw [hx] at hy; injection hy with hy; subst hy
      exact hv'
    · rw [hα j e]
      refine (hvar j y b' hy e').step (fun c o hc hX => ?_) (fun c hc => ?_) (hm' y (nodup_ne ok.nodup hy hx e)) fun ho o hc => ?_
      · exact (k c o (fun z => hX (.inr (.inl z))) hc).1 fun m => hX (S.fsX c m)
      · rcases hc with hc | hc | ⟨l, hl, hc⟩
        · exact .inl (.inl (hY ▸ hc))
        · exact .inl (.inr (.inl hc))
        · rcases ownSet hl with ⟨rfl, ho⟩ | ⟨hne, ho⟩
          · right; rw [hc]; exact (hown ho).2
          · left; right; right; exact ⟨l, ho, by rw [hc, hα l hne]⟩
      · have fr := S.fresh j ⟨b', e', ho⟩
        exact (k _ o fr.2.1 hc).1 (own_off ok fr.1 fr.2.1)
  · have h1 := S.cs.keep c o e
    exact (k c o (fun z => by rw [z, ok.newL0] at e; cases e) h1).1 fun m => by rw [fs_none0 ok S.cs c m] at e; cases e
  · exact ff_of S.cs.ff fun c hc o e => (k c o (outer_ne ok c hc) e).2
  · have hc : c ≠ f.L := fun z => by rw [z, ok.newL] at e; cases e
    obtain ⟨p, sl, q⟩ := S.kE c o e
    obtain ⟨_, sl', q'⟩ := k c _ hc q
    refine ⟨fun nb => (k c o hc (p nb)).1 fun m => ?_, sl', q'⟩
    rw [Fm.fs_eq] at m
    exact (List.mem_cons.mp m).elim hc nb
  · intro j l hj hl e
    rcases ownSet hj with ⟨rfl, ho⟩ | ⟨hne, ho⟩
    · rcases ownSet hl with ⟨rfl, ho'⟩ | ⟨hne', ho'⟩
      · rfl
      · obtain ⟨o, q⟩ := ownThere ho'
        rw [hα l hne'] at e
        rw [← e, (hown ho).2] at q; cases q
    · rcases ownSet hl with ⟨rfl, ho'⟩ | ⟨hne', ho'⟩
      · obtain ⟨o, q⟩ := ownThere ho
        rw [hα j hne] at e
        rw [e, (hown ho').2] at q; cases q
      · rw [hα j hne, hα l hne'] at e
        exact S.inj j l ho ho' e
  · intro j hj
    rcases ownSet hj with ⟨rfl, ho⟩ | ⟨hne, ho⟩
    · exact (hown ho).1
    · rw [hα j hne]; exact S.fresh j ho
  · rw [hY] at hc
    obtain ⟨o, e⟩ := S.Yex c hc
    by_cases z : c = f.L
    · subst z; exact exL
    · obtain ⟨_, q⟩ := (k c o z e).2; exact ⟨_, q⟩
  · rw [hY] at m
    rcases ownSet hj with ⟨rfl, ho⟩ | ⟨hne, ho⟩
    · obtain ⟨o, e⟩ := S.Yex _ m; rw [(hown ho).2] at e; cases e
    · rw [hα j hne] at m; exact S.offY j ho m
theorem assignComp_core {x y : Str} {i : Nat} {px py pos spos : Pos} {iter elt : Expr} {scope : Scope} {es : List V} {b : B} {rest : List Stmt} {O : Out → Prop} (ok : FmOk g f n) (hy : f.xs[i]? = some y) (hc : CompOk g f n ρ x iter elt scope es) (hb : b = .sh (.list es) ∨ b = .li es) (h : Ex g f (ρ.set i (some b)) rest O)
    (hsw : swapsWith (.ListComp elt [⟨.Name x px, iter, [], 0⟩] scope pos) (some (.Name y py)) spos.line f.env = pure true) : Ex g f ρ (.Assign [.Name y py] (.ListComp elt [⟨.Name x px, iter, [], 0⟩] scope pos) spos :: rest) O := fun σ s Q E S q ex => by
  obtain ⟨⟨items, fr, ys, cl, sc, hi, hlen, hes, hfr, he⟩, hs⟩ := hc
  refine wpAny_execs_cons ?_
  rw [exec_Assign_Name_used _ _ _ _ hsw]
  refine wpAny_bind (wpAny_standAt (wpAny_bind ?_))
  show wpAny _ f.A (do let _ ← comprehension (.ListComp elt [⟨.Name x px, iter, [], 0⟩] scope pos) scope f.env _ (newList []) false (eval iter f.env) (some (assign (.Name y py) f.env))) _ _ s
  have hcl := (hfr σ _ S).1
  refine wpAny_bind (wpAny_comprehension_free (use := some (assign (.Name y py) f.env)) rfl hs hcl sc.kind sc.names (hi σ s _ E S fun I h₁ h₂ tk fp P Stt k₁ k₂ hI exI W st0 hfp hP => ?_))
  have S₁ := S.mono ok k₁
  have hfr₁ := hfr σ _ S₁
  refine comp_core (s := s) (RR := fun acc C => compPost (model g.prog g.w) f.A E (some (assign (.Name y py) f.env)) _ acc C) ok sc S₁ k₂ hI exI W st0 hfp hP hfr₁ hlen hes he fun D C h' tk' m' vs c nD nC hDC hn K hD rl hvl => ?_
  have none_of : ∀ {a : Addr}, h₁.get? a = none → f.hE.get? a = none ∧ a ≠ f.L ∧ g.H0.get? a = none ∧ a ∉ f.fs := fun {a} e => by
    refine ⟨?_, fun z => ?_, ?_, fun m => ?_⟩
    · cases z : f.hE.get? a with
      | none => rfl
      | some o => obtain ⟨_, q⟩ := (S₁.kE a o z).2; rw [e] at q; cases q
    · obtain ⟨_, ⟨oL, _, _, hL, _⟩, _⟩ := S₁.ex; rw [← z, e] at hL; cases hL
    · cases z : g.H0.get? a with
      | none => rfl
      | some o => have := S₁.cs.keep a o z; rw [e] at this; cases this
    · obtain ⟨o, z⟩ := S₁.Xex (S₁.fsX a m); rw [e] at z; cases z
  have dd := none_of nD
  have dc := none_of nC
  have hym := List.mem_of_getElem? hy
  obtain ⟨m₀, hns₀, _⟩ := S₁.ex
  refine wpAny_assign_Name (wpAny_storeName_local (ok.loc y hym) (K.ns hns₀) (fun H hnsH sbH => ?_) (by rw [ok.kind]; rfl))
  have sbH' : Heap.SameBut f.L h' H := sbH
  have nsC : ∃ m, H.Ns C m := by
    obtain ⟨oL, q1, q2, q3, q4⟩ := hn
    exact ⟨_, oL, q1, q2, (sbH'.2 _ dc.2.1).trans q3, q4⟩
  obtain ⟨mC, nsC⟩ := nsC
  refine ⟨mC, nsC, fun h3 sb => wpAny_pure (wpAny_pure ?_)⟩
  have kk : ∀ b o, b ≠ f.L → h₁.get? b = some o → (b ∉ f.fs → h3.get? b = some o) ∧ ∃ sl, h3.get? b = some { o with slots := sl } := fun b o hb e => by
    have hc : b ≠ C := fun z => by rw [z, nC] at e; cases e
    obtain ⟨p, sl, q⟩ := K b o e
    have mv : ∀ {o}, h'.get? b = some o → h3.get? b = some o := fun {o} e => (sb.2 b hc).trans ((sbH'.2 b hb).trans e)
    exact ⟨fun nb => mv (p nb), sl, mv q⟩
  have D3 : h3.get? D = some (lobj vs c) := (sb.2 D hDC).trans ((sbH'.2 D dd.2.1).trans hD)
  have ns3 : h3.Ns f.L (fun z => if z = y then some (.ref D) else m₀ z) := by
    obtain ⟨oL, q1, q2, q3, q4⟩ := hnsH
    exact ⟨oL, q1, q2, (sb.2 _ (Ne.symm dc.2.1)).trans q3, q4⟩
  have kx : KX (fun b => XOf f σ ρ b ∨ b = D ∨ b = C) h' h3 := fun b o e nx => (sb.2 b fun z => nx (.inr (.inr z))).trans ((sbH'.2 b fun z => nx (.inl (.inr (.inl z)))).trans e)
  have hvl' : vs.length ≤ sizeLine := by omega
  have fin : ∀ σ', (∀ j, j ≠ i → σ'.α j = σ.α j) → σ'.Y = σ.Y → (b.owns = true → σ'.α i = D) → VarOk g f h3 (XOf f σ' (ρ.set i (some b))) (fun z => if z = y then some (.ref D) else m₀ z) (σ'.α i) y b →
      wpAny (model g.prog g.w) f.A (execs rest f.env) Q E { s with heap := h3, toks := tk' + 1 } := fun σ' hα hY hD' hv => by
    obtain ⟨S₃, T₃⟩ := S₁.bind (σ' := σ') (h' := h3) ok (Fm.nmx hy) kk hα hY (fun ho => by rw [hD' ho]; exact ⟨⟨dd.1, dd.2.1, dd.2.2.1⟩, nD⟩) fun m hm => by
      have := ns_unique hm hns₀; subst this
      exact ⟨_, ns3, fun z hz => by simp [hz], hv⟩
    exact Ex.after (σ := σ) (ρ := ρ) (s := s) h S₃ (k₁.trn.trans T₃) q ex
  rcases hb with rfl | rfl
  · refine fin σ (fun _ _ => rfl) rfl (fun z => nomatch z) ⟨.ref D, by simp, ?_⟩
    have subX : ∀ a, XOf f σ (ρ.set i (some (.sh (.list es)))) a → XOf f σ ρ a := fun a ha => by
      rcases ha with ha | ha | ⟨j, ⟨b', hb', ho⟩, ha⟩
      · exact .inl ha
      · exact .inr (.inl ha)
      · rcases set_get hb' with ⟨_, e'⟩ | ⟨_, e'⟩
        · injection e' with e'; subst e'; cases ho
        · exact .inr (.inr ⟨j, ⟨b', e', ho⟩, ha⟩)
    simp only [Rep]
    exact ⟨D, vs, c, rfl, ⟨D3, fun m => S₁.fresh_off nD (subX _ m)⟩, rl.mono kx fun a m => .inl (.inl (subX a m)), hvl'⟩
  · refine fin ⟨σ.Y, fun j => if j = i then D else σ.α j⟩ (fun j hj => by simp [hj]) rfl (fun _ => by simp) ⟨by simp, vs, c, by simpa using D3, rl.mono kx fun a m => .inl ?_, hvl'⟩
    rcases m with ha | ha | ⟨j, ⟨b', hb', ho⟩, ha⟩
    · exact .inl (.inl ha)
    · exact .inl (.inr (.inl ha))
    · rcases set_get hb' with ⟨e, _⟩ | ⟨e, e'⟩
      · subst e; refine .inr (.inl ?_); rw [ha]; simp
      · refine .inl (.inr (.inr ⟨j, ⟨b', e', ho⟩, ?_⟩)); rw [ha]; simp [e]
theorem Ex.assignComp {x y : Str} {px py pos spos : Pos} {iter elt : Expr} {scope : Scope} {es : List V} {rest : List Stmt} {O : Out → Prop} (ok : FmOk g f n) (i : Nat) (hy : f.xs[i]? = some y) (hc : CompOk g f n ρ x iter elt scope es) (h : Ex g f (ρ.set i (some (.sh (.list es)))) rest O)
    (hsw : swapsWith (.ListComp elt [⟨.Name x px, iter, [], 0⟩] scope pos) (some (.Name y py)) spos.line f.env = pure true) : Ex g f ρ (.Assign [.Name y py] (.ListComp elt [⟨.Name x px, iter, [], 0⟩] scope pos) spos :: rest) O := assignComp_core ok hy hc (.inl rfl) h hsw
theorem Ex.assignCompO {x y : Str} {px py pos spos : Pos} {iter elt : Expr} {scope : Scope} {es : List V} {rest : List Stmt} {O : Out → Prop} (ok : FmOk g f n) (i : Nat) (hy : f.xs[i]? = some y) (hc : CompOk g f n ρ x iter elt scope es) (h : Ex g f (ρ.set i (some (.li es))) rest O)
    (hsw : swapsWith (.ListComp elt [⟨.Name x px, iter, [], 0⟩] scope pos) (some (.Name y py)) spos.line f.env = pure true) : Ex g f ρ (.Assign [.Name y py] (.ListComp elt [⟨.Name x px, iter, [], 0⟩] scope pos) spos :: rest) O := assignComp_core ok hy hc (.inr rfl) h hsw
end
section
variable {g : GI} {f : Fm} {n : Nat} {ρ : En}
theorem Ex.while {test : Expr} {body : List Stmt} {pos : Pos} {O : Out → Prop} {τ : Type} (ok : FmOk g f n) (R : τ → En) (J : τ → Prop) (μ : τ → Nat) (t0 : τ) (h0 : Weak ρ (R t0)) (j0 : J t0) (cond : τ → Bool)
    (tst : ∀ t, J t → Te g f (R t) test (cond t))
    (turn : ∀ t, J t → cond t = true → Ex g f (R t) body (TurnO (fun ρ' => ∃ t', J t' ∧ μ t' < μ t ∧ Weak ρ' (R t')) O))
    (done : ∀ t, J t → cond t = false → O (.next (R t))) : Ex g f ρ [.While test body [] pos] O := fun σ s Q E S q ex => by
  have fin : wpAny (model g.prog g.w) f.A (exec (.While test body [] pos) f.env) Q E s := by
    refine wpAny_While ?_
    refine codeAny_whileLoop (fun c s' => ∃ (t : τ) (σ' : Sp) (h' : Heap) (tk' : Nat), s' = { s with heap := h', toks := tk' } ∧ c = μ t ∧ J t ∧ St g f σ' (R t) h' ∧ Trn f σ ρ s.heap σ' (R t) h') ?_ (μ t0)
      ⟨t0, σ, s.heap, s.toks, rfl, rfl, j0, S.weak h0, h0.trn _ _⟩
    rintro c s' ⟨t, σ', h', tk', rfl, rfl, hJ, S', T'⟩
    refine tst t hJ σ' { s with heap := h', toks := tk' } _ _ S' fun h₂ tk₂ k₂ => ?_
    have S₂ := S'.mono ok k₂
    have T₂ : Trn f σ ρ s.heap σ' (R t) h₂ := T'.trans k₂.trn
    cases hc : cond t with
    | true =>
      simp only [if_true]
      refine turn t hJ hc σ' { s with heap := h₂, toks := tk₂ } _ _ S₂ (fun fl o h₃ tk₃ ho hok => ?_) fun c ρ' e' h₃ tk₃ ho _ => ho.elim
      have next : ∀ ρ' σ₃, (∃ t', J t' ∧ μ t' < μ t ∧ Weak ρ' (R t')) → St g f σ₃ ρ' h₃ → Trn f σ' (R t) h₂ σ₃ ρ' h₃ →
          ∃ m, m < μ t ∧ ∃ (t : τ) (σ' : Sp) (h' : Heap) (tk' : Nat), ({ s with heap := h₃, toks := tk₃ } : Shared) = { s with heap := h', toks := tk' } ∧ m = μ t ∧ J t ∧ St g f σ' (R t) h' ∧ Trn f σ ρ s.heap σ' (R t) h' := by
        rintro ρ' σ₃ ⟨t', hJ', hm, w'⟩ S₃ T₃
        exact ⟨μ t', hm, t', σ₃, h₃, tk₃, rfl, rfl, hJ', S₃.weak w', (T₂.trans T₃).trans (w'.trn _ _)⟩
      cases o with
      | next ρ' => obtain ⟨rfl, σ₃, S₃, T₃⟩ := hok; exact next ρ' σ₃ ho S₃ T₃
      | cont ρ' => obtain ⟨rfl, σ₃, S₃, T₃⟩ := hok; exact next ρ' σ₃ ho S₃ T₃
      | brk ρ' =>
        obtain ⟨rfl, σ₃, S₃, T₃⟩ := hok
        exact q .next (.next ρ') h₃ tk₃ ho ⟨rfl, _, S₃, T₂.trans T₃⟩
      | ret d =>
        obtain ⟨u, rfl, c, kE, r⟩ := hok
        exact q (.ret u) (.ret d) h₃ tk₃ ho ⟨u, rfl, c, kE, by rw [← T₂.Y]; exact r⟩
      | exc _ _ => exact ho.elim
    | false =>
      simp only [Bool.false_eq_true, if_false]
      exact wpAny_execs_nil (q .next (.next (R t)) h₂ tk₂ (done t hJ hc) ⟨rfl, _, S₂, T₂⟩)
  refine wpAny_execs_cons (wpAny_mono fin (fun fl s' h => ?_) fun _ _ h => h)
  cases fl <;> first | exact h | exact wpAny_execs_nil h
end
structure SetK (g : GI) : Prop where
  hs : findIn g.K (.ref g.C) "__setattr__" = some (some (.builtin "object.__setattr__"))
  hp : plainOver g.K g.C = true
  ht : takerIn g.K g.C "labels" = some none
  hh : (clsIn g.K g.C).any (·.hasDict) = true
section
variable {prog : Program} {w : World} {A : Around} {E : Value → Shared → Prop} {s : Shared}
theorem set_core {K : Frag} {C x dx : Addr} {v : Value} {R : Result → Shared → Prop} {name : Str} {tk₀ : Tok} (X : K.In s.heap) (hx : s.heap.get? x = some (instObj C dx)) (hdx : s.heap.get? dx = some emptyDict)
    (hp : plainOver K C = true) (ht : takerIn K C name = some none) (hh : (clsIn K C).any (·.hasDict) = true)
    (h : ∀ h' hsh tk m tk', Heap.SameBut dx s.heap h' → h'.get? dx = some (dictOf [⟨hsh, .str name tk, v⟩] m) → R (.ok (.ret .none)) { s with heap := h', toks := tk' }) :
    codeAny (model prog w) A (.call (.builtin "object.__setattr__") ⟨[.ref x, .str name tk₀, v], []⟩) R s := by
  have I : PySem.W.InstAt s.heap x (instObj C dx) C (some emptyDict) := ⟨hx, rfl, rfl, hdx⟩
  refine osa_open X I hp ht fun b => ?_
  obtain ⟨cd, hc, hd'⟩ := any_some hh
  refine wpAny_bind (wpAny_pure (wpAny_bind (wpAny_bind (wpAny_loadPart hx (wpAny_bind ((looks_clsIn X hc).here ?_))))))
  rw [hd']
  refine wpAny_pure (a := some dx) (wpAny_bind (wpAny_pure (wpAny_bind ?_)))
  unfold nsSet
  refine wpAny_bind (wpAny_bind (wpAny_askSetting (wpAny_pure (wpAny_bind (wpAny_mkText (wpAny_bind (wpAny_loadPart hdx ?_)))))))
  have c : (!(#[] : Array DictEntry).any (·.key.isStr name) && (#[] : Array DictEntry).any (·.refKey)) = false := by simp
  dsimp only
  rw [aRefKeyMayBeTheName_at, c]
  have e : ∀ hsh tk, ∃ m, (Obj.putName name hsh (.str name tk) v emptyDict) = dictOf [⟨hsh, .str name tk, v⟩] m := fun hsh tk => by
    rw [Obj.putName_eq]; exact ⟨_, by simp [Obj.putNameByArray]; rfl⟩
  have D' : ∀ hsh tk, ∃ m, (s.heap.update dx (Obj.putName name hsh (.str name tk) v)).get? dx = some (dictOf [⟨hsh, .str name tk, v⟩] m) := fun hsh tk => by
    obtain ⟨m, e⟩ := e hsh tk
    exact ⟨m, by rw [Heap.get?_update_self _ hdx (by rw [e]; rfl), e]⟩
  refine wpAny_updatePart hdx ?_
  obtain ⟨m, D⟩ := D' (PyData.keyHash w.params name) s.toks
  refine wpAny_bind (wpAny_lookBehind D (pastItsLine_dict (by rw [List.size_toArray, sizeLine_eq]; exact Nat.le_of_ble_eq_true rfl)) ?_)
  exact wpAny_pure (h _ _ _ _ _ (Heap.SameBut.update ..) D)
theorem set_raw {K : Frag} {C x dx : Addr} {v : Value} {Q : Unit → Shared → Prop} {name : Str} (X : K.In s.heap) (hx : s.heap.get? x = some (instObj C dx)) (hdx : s.heap.get? dx = some emptyDict)
    (hs : findIn K (.ref C) "__setattr__" = some (some (.builtin "object.__setattr__"))) (hp : plainOver K C = true) (ht : takerIn K C name = some none) (hh : (clsIn K C).any (·.hasDict) = true)
    (h : ∀ h' hsh tk m tk', Heap.SameBut dx s.heap h' → h'.get? dx = some (dictOf [⟨hsh, .str name tk, v⟩] m) → Q () { s with heap := h', toks := tk' }) :
    wpAny (model prog w) A (setAttr (.ref x) name v) Q E s := by
  have I : PySem.W.InstAt s.heap x (instObj C dx) C (some emptyDict) := ⟨hx, rfl, rfl, hdx⟩
  exact set_plain X I hs (set_core (s := { s with toks := s.toks + 1 }) X hx hdx hp ht hh h)
end
section
variable {g : GI} {f : Fm} {n : Nat} {ρ : En}
theorem meName {x : Str} {i : Nat} {o : Option (List (List UInt8))} {np : Pos} {σ : Sp} {s : Shared} {Q : Value → Shared → Prop} {E : Value → Shared → Prop} (ok : FmOk g f n) (S : St g f σ ρ s.heap) (hx : f.xs[i]? = some x) (hb : ρ[i]? = some (some (.me o)))
    (h : Q (.ref (σ.α i + 1)) s) : wpAny (model g.prog g.w) f.A (eval (.Name x np) f.env) Q E s := by
  obtain ⟨m, hns, hv⟩ := S.ex
  have hm := List.mem_of_getElem? hx
  obtain ⟨_, e, _⟩ := hv i x _ (Fm.nmx hx) hb
  exact wpAny_Name (wpAny_loadName_local ok.kind (ok.loc x hm) hns e h) (ok.ndx hm)
theorem St.me {i : Nat} {o : Option (List (List UInt8))} {σ : Sp} {h : Heap} (S : St g f σ ρ h) (hb : ρ[i]? = some (some (.me o))) : σ.α i = f.hE.objs.size ∧ h.get? (σ.α i + 1) = some (instObj g.C (σ.α i)) ∧ ¬ XOf f σ ρ (σ.α i + 1) ∧ MeOk g h (XOf f σ ρ) (σ.α i) o := by
  obtain ⟨m, hns, hv⟩ := S.ex
  have hl : i < f.nm.length := Nat.lt_of_lt_of_le (List.getElem?_eq_some_iff.mp hb).1 S.len
  obtain ⟨e0, _, e1, e2, e3⟩ := hv i _ _ (List.getElem?_eq_getElem hl) hb
  exact ⟨e0, e1, e2, e3⟩
theorem Ex.setLabels {x : Str} {np apos pos : Pos} {e : Expr} {ls : List (List UInt8)} {rest : List Stmt} {O : Out → Prop} (ok : FmOk g f n) (i : Nat) (hx : f.xs[i]? = some x) (hb : ρ[i]? = some (some (.me none))) (sk : SetK g) (he : Ev g f ρ e (.ok (.tup (ls.map .bytes))))
    (h : Ex g f (ρ.set i (some (.me (some ls)))) rest O) (hs : swapsWith e (some (.Attribute (.Name x np) "labels" apos)) pos.line f.env = pure false := by rfl) : Ex g f ρ (.Assign [.Attribute (.Name x np) "labels" apos] e pos :: rest) O := fun σ s Q E S q ex => by
  refine wpAny_execs_cons (plainObj_wpAny_Assign_Attribute (he σ s _ _ S (fun v d h₁ t₁ ed k₁ r₁ => ?_) fun c e' h' tk ec => nomatch ec) hs)
  injection ed with ed; subst ed
  have S₁ := S.mono ok k₁
  refine meName (s := { s with heap := h₁, toks := t₁ }) ok S₁ hx hb ?_
  obtain ⟨a0, a1, a2, a3⟩ := S₁.me hb
  have X : g.K.In h₁ := ok.G.X.keeps S₁.cs.keep
  refine set_raw (s := { s with heap := h₁, toks := t₁ }) X a1 a3 sk.hs sk.hp sk.ht sk.hh fun h₂ hsh tk m tk' sb hd => ?_
  have aX : XOf f σ ρ (σ.α i) := .inr (.inr ⟨i, ⟨_, hb, rfl⟩, rfl⟩)
  have sb' : Heap.SameBut (σ.α i) h₁ h₂ := sb
  have kx : KX (XOf f σ ρ) h₁ h₂ := fun c o ec nc => (sb'.2 c fun z => nc (z ▸ aX)).trans ec
  have isr : ∃ t, v = .ref t := by simp only [Rep] at r₁; obtain ⟨a, _, _, e, _⟩ := r₁; exact ⟨a, e⟩
  obtain ⟨t, rfl⟩ := isr
  obtain ⟨S₂, T₂⟩ := S₁.turn ok hb rfl (b' := .me (some ls)) rfl sb' fun m₀ x₀ a₀ hv₀ ea => by
    subst ea
    have sub : ∀ b, XOf f σ (ρ.set i (some (.me (some ls)))) b → XOf f σ ρ b ∨ h₁.get? b = none := fun b hb' => .inl ((X_set hb rfl rfl b).mp hb')
    exact ⟨hv₀.1, hv₀.2.1, (sb'.2 _ (fun z => Nat.succ_ne_self _ z)).trans a1, fun z => a2 ((X_set hb rfl rfl _).mp z), hsh, tk, t, m, hd, r₁.mono kx sub⟩
  exact Ex.after (σ := σ) (ρ := ρ) (s := s) h S₂ (k₁.trn.trans T₂) q ex
theorem Ev.labelsMe {x : Str} {np pos : Pos} {ls : List (List UInt8)} (ok : FmOk g f n) (hK : LabK g) (i : Nat) (hx : f.xs[i]? = some x) (hb : ρ[i]? = some (some (.me (some ls))))
    (he : eval (.Attribute (.Name x np) "labels" pos) f.env = (do
      let o' ← eval (.Name x np) f.env
      standAt pos.atName
      let r ← holding [o'] (getAttr o' "labels" true)
      letTemporaryGo (.Name x np) o' r
      pure r) := by rfl) : Ev g f ρ (.Attribute (.Name x np) "labels" pos) (.ok (.tup (ls.map .bytes))) := fun σ s Q E S q ex => by
  refine PyProof.Rows.Attribute_any_ (meName ok S hx hb ?_) he
  obtain ⟨a0, a1, a2, hs, tk, t, m, a4, a5⟩ := S.me hb
  have X : g.K.In s.heap := ok.G.X.keeps S.cs.keep
  have I : PySem.W.InstAt s.heap (σ.α i + 1) (instObj g.C (σ.α i)) g.C (some (dictOf [⟨hs, .str "labels" tk, .ref t⟩] m)) := ⟨a1, rfl, rfl, a4⟩
  refine get_value X I hK.ga (findObj_own (v := .ref t) (attr := none) hK.hd hK.ha rfl ?_) rfl ?_
  · unfold lookIn
    simp [Value.isStr]
  · exact q _ _ s.heap _ rfl (Kf.refl _ _) a5
theorem Ev.clsAttr {x name : Str} {np pos : Pos} {C' : Addr} {mc : Value} {k : Int} {tk : Tok} (ok : FmOk g f n) (hx : f.env.kindOf x = some .globalImplicit) (gv : GV g x (.ref C')) (hr : readsIn g.K C' mc = true) (e : findCls g.K (.ref C') mc name = some (.val (.int k tk)))
    (hh : handedIn (.int k tk) = true := by rfl)
    (he : eval (.Attribute (.Name x np) name pos) f.env = (do
      let o' ← eval (.Name x np) f.env
      standAt pos.atName
      let r ← holding [o'] (getAttr o' name true)
      letTemporaryGo (.Name x np) o' r
      pure r) := by rfl) : Ev g f ρ (.Attribute (.Name x np) name pos) (.ok (.int k)) := fun σ s Q E S q ex => by
  refine PyProof.Rows.Attribute_any_ (gv f n np s _ _ ok hx S.cs ?_) he
  refine cls_value (ok.G.X.keeps S.cs.keep) hr e hh ?_
  exact q _ _ s.heap _ rfl (Kf.refl _ _) (by simp only [Rep]; exact ⟨_, rfl⟩)
theorem Ex.unpack3 {x y z : Str} {xp yp zp tp pos : Pos} {e : Expr} {kk : Nat} {a b c : V} {rest : List Stmt} {O : Out → Prop} (ok : FmOk g f n) (i j l : Nat) (hx : f.xs[i]? = some x) (hy : f.xs[j]? = some y) (hz : f.xs[l]? = some z) (he : Ev g f ρ e (.ok (.tup [a, b, c])))
    (h : Ex g f (((ρ.set i (some (.sh a))).set j (some (.sh b))).set l (some (.sh c))) rest O)
    (hs : swapsWithSole [.Tuple [.Name x xp, .Name y yp, .Name z zp] kk tp] e pos.line f.env = pure false := by rfl) (hw : swappedStores [.Tuple [.Name x xp, .Name y yp, .Name z zp] kk tp] e f.env = pure none := by rfl) :
    Ex g f ρ (.Assign [.Tuple [.Name x xp, .Name y yp, .Name z zp] kk tp] e pos :: rest) O := fun σ s Q E S q ex => by
  refine wpAny_execs_cons (PyProof.Rows.Assign_Tuple (he σ s _ _ S (fun v d h₁ t₁ ed k₁ r₁ => ?_) fun c e' h' tk ec => nomatch ec) hs hw)
  injection ed with ed; subst ed
  have S₁ := S.mono ok k₁
  simp only [Rep, RepL] at r₁
  obtain ⟨p, vs, m, rfl, hp, ⟨va, r1, rfl, ra, vb, r2, rfl, rb, vc, r3, rfl, rc, rfl⟩, hl⟩ := r₁
  refine wpAny_assign_Tuple (s := { s with heap := h₁, toks := t₁ }) (items := [va, vb, vc].toArray) ok.hd ⟨_, hp.1, rfl, m, rfl⟩ rfl rfl fun h₂ hx₂ => ?_
  have k₂ : Kf f.fs h₁ h₂ := Kf.of_keeps fun b o e => hx₂ b o (Nat.ne_of_lt (Heap.lt_size e)) e
  have S₂ := S₁.mono ok k₂
  show wpAny _ _ (assignInOrder [PySem.assign (.Name x xp) f.env, PySem.assign (.Name y yp) f.env, PySem.assign (.Name z zp) f.env] [va, vb, vc]) _ _ _
  unfold assignInOrder
  refine wpAny_bind (wpAny_holding (wpAny_assign_Name (store_sh (s := { s with heap := h₂, toks := t₁ }) ok S₂ hx (rmono S ra k₂) fun h₃ tk₃ S₃ T₃ => ?_)))
  have up : ∀ {ρ' ρ'' : En} {h h' : Heap} {d : V} {v : Value}, St g f σ ρ' h → Trn f σ ρ' h σ ρ'' h' → Rep g.C h (XOf f σ ρ') d v → Rep g.C h' (XOf f σ ρ'') d v := fun {ρ' ρ'' h h' d v} S T r =>
    r.mono (T.kx S) fun b m => by
      rcases m with m | m | m
      · exact .inl (.inl m)
      · exact .inl (.inr (.inl m))
      · exact (T.own b m).elim (fun m => .inl (.inr (.inr m))) .inr
  unfold assignInOrder
  refine wpAny_bind (wpAny_holding (wpAny_assign_Name (store_sh (s := { s with heap := h₃, toks := tk₃ }) ok S₃ hy (up S₂ T₃ (rmono S rb k₂)) fun h₄ tk₄ S₄ T₄ => ?_)))
  unfold assignInOrder
  refine wpAny_bind (wpAny_holding (wpAny_assign_Name (store_sh (s := { s with heap := h₄, toks := tk₄ }) ok S₄ hz (up S₃ T₄ (up S₂ T₃ (rmono S rc k₂))) fun h₅ tk₅ S₅ T₅ => ?_)))
  unfold assignInOrder
  exact wpAny_pure (Ex.after (σ := σ) (ρ := ρ) (s := s) h S₅ ((((k₁.trans k₂).trn).trans T₃).trans (T₄.trans T₅)) q ex)
end
theorem w_make (C : Addr) (rest : List Value) (kw : List (Str × Value)) : (Code.builtin "type.__call__" ⟨.ref C :: rest, kw⟩).weight = 1 := by
  kernel_rfl
theorem u_make (C : Addr) (rest : List Value) (kw : List (Str × Value)) : (Code.builtin "type.__call__" ⟨.ref C :: rest, kw⟩).cUnits = 1 := by
  kernel_rfl
theorem e_make (C : Addr) (rest : List Value) (kw : List (Str × Value)) : (Code.builtin "type.__call__" ⟨.ref C :: rest, kw⟩).envs = [] := by
  kernel_rfl
theorem name_tup {C : Addr} {h : Heap} {X : Addr → Prop} : ∀ {ls : List (List UInt8)} {vs : List Value}, RepL C h X (ls.map .bytes) vs → (∀ b ∈ ls, b.length ≤ sizeLine) ∧ ∃ tks : List Tok, tks.length = ls.length ∧ vs = (ls.zip tks).map fun p => .bytes p.1.toArray p.2
  | [], _, r => by simp only [List.map_nil, RepL] at r; subst r; exact ⟨(fun _ h => nomatch h), [], rfl, rfl⟩
  | b :: bs, _, r => by
    simp only [List.map_cons, RepL, Rep] at r
    obtain ⟨v, t, rfl, ⟨⟨u, rfl⟩, hl⟩, r2⟩ := r
    obtain ⟨h1, tks, h2, h3⟩ := name_tup r2
    exact ⟨fun b' hb => (List.mem_cons.mp hb).elim (fun z => z ▸ hl) (h1 b'), u :: tks, by simp [h2], by simp [h3]⟩
def InitO : Res → Out → Prop
  | .ok (.name ls), o => ∃ ρ, o = .next ρ ∧ ρ[0]? = some (some (.me (some ls)))
  | .ok _, _ => False
  | .exc c, o => ∃ ρ, o = .exc c ρ
def meEn (k : Nat) (ds : List V) : En := some (B.me none) :: shEn k ds
theorem meEn_own {k : Nat} {ds : List V} {i : Nat} (h : Own (meEn k ds) i) : i = 0 := by
  cases i with
  | zero => rfl
  | succ j => obtain ⟨b, hb, ho⟩ := h; exact (shEn_own ⟨b, by simpa [meEn] using hb, ho⟩).elim
theorem Fn.make {g : GI} {n : Nat} {fI : Addr} {ds : List V} {r : Res} {names loc : List Str} {name qual : Str} {params : Arguments} {body : List Stmt} {scope : Scope} {dV kV doc pm cdv ct oc : Value} {an od : Option Addr} {osl : Array (Option Value)}
    (hmk : makesIn g.K g.C = true) (hi : findIn g.K (.ref g.C) "__init__" = some (some (.ref fI))) (hf : typeIn g.K (.ref fI) = some (.type "function"))
    (ho : g.K.lookup fI = some ⟨oc, od, .func (fnOf name qual params body scope dV kV doc pm an cdv ct), osl⟩) (hcd : codeIn g.K cdv qual = true)
    (hbind : ∀ (vs : List Value) (s : Shared), vs.length = ds.length + 1 → g.K.In s.heap → BindsTo s (fnOf name qual params body scope dV kV doc pm an cdv ct) ⟨vs, []⟩ (names.zip vs))
    (hn : (names ++ loc).Nodup) (hlen : names.length = ds.length + 1) (hloc : ∀ y ∈ names ++ loc, scope.names.lookup y = some .local) (hdb : ∀ x ∈ names ++ loc, (x == ("__debug__" : Str)) = false)
    (hb : ∀ f : Fm, FmOk g f n → f.env.scope = scope → f.xs = names ++ loc → f.ys = [] → f.env.cells = [] → Ex g f (meEn loc.length ds) body (InitO r))
    (hco : scope.isCoroutine = false := by rfl) (hgen : scope.isGenerator = false := by rfl) (hk : scope.kind = .function := by rfl) (hcell : ∀ x ∈ scope.names, x.2 ≠ .cell := by decide) :
    Fn g (n + 2) (.ref g.C) ds r := by
  intro A l Y vs s R ok hA hh room cs hY hYex hY0 hr q ex
  obtain ⟨h0, gs, dr, tk0, os⟩ := s
  dsimp only at cs hYex hr q ex
  have X0 : g.K.In h0 := ok.X.keeps cs.keep
  have hvl : vs.length = ds.length := RepL.length hr
  have nD : h0.get? h0.objs.size = none := none_of_ge (Nat.le_refl _)
  have nX : h0.get? (h0.objs.size + 1) = none := none_of_ge (Nat.le_succ _)
  have nL : h0.get? (h0.objs.size + 2) = none := none_of_ge (by omega)
  have h00 : ∀ {a}, h0.get? a = none → g.H0.get? a = none := fun {a} e => by
    cases z : g.H0.get? a with
    | none => rfl
    | some o => rw [cs.keep a o z] at e; cases e
  have nY : ∀ {a}, h0.get? a = none → ¬ Y a := fun {a} e m => by obtain ⟨o, z⟩ := hYex a m; rw [e] at z; cases z
  refine make_core (makes_of X0 hmk) (looks_findIn X0 hi) (fun self => bind_fn X0 self hf) (.inl rfl) ?_
  have k01 : ∀ b o, h0.get? b = some o → ((h0.push emptyDict).push (instObj g.C h0.objs.size)).get? b = some o := fun b o e => Heap.get?_push_of_some _ (Heap.get?_push_of_some _ e)
  have hx : ((h0.push emptyDict).push (instObj g.C h0.objs.size)).get? (h0.objs.size + 1) = some (instObj g.C h0.objs.size) := by heap_get
  have hdx : ((h0.push emptyDict).push (instObj g.C h0.objs.size)).get? h0.objs.size = some emptyDict := Heap.get?_push_of_some _ (Heap.get?_push_size _ rfl)
  have hsz : ((h0.push emptyDict).push (instObj g.C h0.objs.size)).objs.size = h0.objs.size + 2 := by rw [Heap.size_push, Heap.size_push]
  generalize hH : (h0.push emptyDict).push (instObj g.C h0.objs.size) = H at *
  have X : g.K.In H := X0.keeps k01
  have fr' : (A.under (.builtin "type.__call__" ⟨.ref g.C :: vs, []⟩)).frames = some l := by
    have e : (A.under (.builtin "type.__call__" ⟨.ref g.C :: vs, []⟩)).frames = pushEnvs (Code.builtin "type.__call__" ⟨.ref g.C :: vs, []⟩).envs A.frames := rfl
    rw [e, e_make]; exact hA
  have dep : (A.under (.builtin "type.__call__" ⟨.ref g.C :: vs, []⟩)).depth = A.depth + 1 := by
    show A.depth + _ = _; rw [w_make]
  have uni : (A.under (.builtin "type.__call__" ⟨.ref g.C :: vs, []⟩)).units = A.units + 1 := by
    show A.units + _ = _; rw [u_make]
  have hd' : (A.under (.builtin "type.__call__" ⟨.ref g.C :: vs, []⟩)).handled = none := hh
  generalize A.under (.builtin "type.__call__" ⟨.ref g.C :: vs, []⟩) = A' at *
  have hnn : names.Nodup := (List.nodup_append.mp hn).1
  refine codeAny_call_def (s := ⟨H, gs, dr, tk0, os⟩) (fd := fnOf name qual params body scope dV kV doc pm an cdv ct) (body := body) (binds := names.zip (.ref (h0.objs.size + 1) :: vs)) (by have := room.1; omega) (X _ _ ho) rfl
    ((ok.T.nolimit.keeps cs.keep).keeps k01) (codeRec_of X hcd) rfl (hbind (.ref (h0.objs.size + 1) :: vs) ⟨H, gs, dr, tk0, os⟩ (by simp [hvl]) X) hcell (fun y hy => hloc _ (List.mem_append_left _ (List.of_mem_zip (a := y.1) (b := y.2) hy).1)) (fun h₁ hns hk₁ => ?_) hco hgen hk
  dsimp only at hns hk₁
  have k02 : ∀ b o, h0.get? b = some o → h₁.get? b = some o := fun b o e => hk₁ b o (k01 b o e)
  let f : Fm := ⟨envOf qual scope H.objs.size fI cdv, A'.deeper (envOf qual scope H.objs.size fI cdv), envOf qual scope H.objs.size fI cdv :: l, l, h0, names ++ loc, []⟩
  have fL : f.L = h0.objs.size + 2 := hsz
  have fok : FmOk g f n := {
    G := ok
    fr := Around.frames_deeper fr'
    hd := hd'
    room := ⟨by show A'.depth + 1 + 3 * n < recursionLimit; have := room.1; omega, by show A'.units + 3 + 8 * n < cLine; have := room.2; omega⟩
    kind := hk
    eG := rfl
    eB := rfl
    stk := fun h ⟨o, e, hd⟩ ff => ⟨by show scope.kind ≠ .module; rw [hk]; decide, ⟨_, o, rfl, h00 (by rw [hsz]; exact nL), e, hd⟩, ff⟩
    sub := fun b hb => hb
    big := ok.big X
    newL := by show h0.get? H.objs.size = none; rw [hsz]; exact nL
    newL0 := h00 (by show h0.get? H.objs.size = none; rw [hsz]; exact nL)
    nodup := by show (names ++ loc ++ []).Nodup; rw [List.append_nil]; exact hn
    loc := hloc
    cel := fun x hx => nomatch hx
    ndb := by show ∀ x ∈ names ++ loc ++ [], _; rw [List.append_nil]; exact hdb
    csE := cs }
  have S : St g f ⟨Y, fun _ => h0.objs.size⟩ (meEn loc.length ds) h₁ := by
    have hX : ∀ b, XOf f ⟨Y, fun _ => h0.objs.size⟩ (meEn loc.length ds) b → Y b ∨ h0.get? b = none := fun b hb => by
      rcases hb with hb | hb | ⟨i, hi, hb⟩
      · exact .inl hb
      · right; rw [hb, fL]; exact nL
      · right; rw [hb]; exact nD
    have nne : h0.objs.size + 1 ≠ h0.objs.size := Nat.succ_ne_self _
    have nX' : ¬ XOf f ⟨Y, fun _ => h0.objs.size⟩ (meEn loc.length ds) (h0.objs.size + 1) := fun hb => by
      rcases hb with hb | hb | ⟨i, hi, hb⟩
      · exact nY nX hb
      · rw [fL] at hb; exact absurd (Nat.succ.inj hb : h0.objs.size = h0.objs.size + 1) (Nat.ne_of_lt (Nat.lt_succ_self _))
      · exact nne hb
    refine ⟨⟨_, hns, ?_⟩, cs.mono (fs := []) (fun b hb => nomatch hb) (Kf.of_keeps k02), Kf.of_keeps k02, fun i j hi hj _ => (meEn_own hi).trans (meEn_own hj).symm, fun i hi => ⟨nD, by rw [fL]; exact Nat.ne_of_lt (Nat.lt_add_of_pos_right (by decide)), h00 nD⟩, by simp [meEn, shEn, f, hlen]; omega, hY, fun b hb => let ⟨o, e⟩ := hYex b hb; ⟨o, k02 b o e⟩, fun i hi => nY nD, hY0⟩
    intro i x b hx' hb
    have hx' : (names ++ loc)[i]? = some x := by
      rw [← hx']; show _ = (names ++ loc ++ [])[i]?
      rw [List.append_nil]
    cases i with
    | zero =>
      have hb : b = .me none := by simpa [meEn] using hb.symm
      subst hb
      have hx0 : names[0]? = some x := by rw [← hx']; exact (List.getElem?_append_left (by omega)).symm
      exact ⟨rfl, lookup_zip hnn hx0 rfl, hk₁ _ _ hx, nX', hk₁ _ _ hdx⟩
    | succ j =>
      have hb : (shEn loc.length ds)[j]? = some (some b) := by simpa [meEn] using hb
      obtain ⟨d, hd, rfl⟩ := shEn_get hb
      have hj : j + 1 < names.length := by have := (List.getElem?_eq_some_iff.mp hd).1; omega
      have hx1 : names[j + 1]? = some x := by rw [← hx']; exact (List.getElem?_append_left hj).symm
      have rr : RepL g.C h₁ (XOf f ⟨Y, fun _ => h0.objs.size⟩ (meEn loc.length ds)) ds vs := hr.mono (fun b o e _ => k02 b o e) hX
      obtain ⟨v, ev, rv⟩ := rr.get hd
      exact ⟨v, lookup_zip hnn hx1 (by simpa using ev), rv⟩
  refine hb f fok rfl rfl rfl rfl _ ⟨h₁, gs, dr, tk0 + (names.zip (.ref (h0.objs.size + 1) :: vs)).length, os⟩ _ _ S (fun fl o h' tk ho hok => ?_) (fun c ρ' e h' tk ho hx => ?_)
  · cases r with
    | exc c => obtain ⟨ρ', rfl⟩ := ho; exact hok.elim
    | ok d =>
      cases d with
      | name ls =>
        obtain ⟨ρ', rfl, h0'⟩ := ho
        obtain ⟨rfl, σ', S', T'⟩ := hok
        obtain ⟨a0, a1, a2, hs, tkk, t, m, a4, a5⟩ := S'.me h0'
        refine ⟨rfl, ?_⟩
        have a0' : σ'.α 0 = h0.objs.size := a0
        rw [← a0']
        refine q _ _ h' tk rfl S'.kE ?_
        have hYY : ∀ b, Y b → XOf f σ' ρ' b := fun b hb => .inl (by rw [T'.Y]; exact hb)
        simp only [Rep] at a5 ⊢
        obtain ⟨t', us, cc, e1, e2, e3, e4⟩ := a5
        injection e1 with e1; subst e1
        obtain ⟨n1, tks, n2, n3⟩ := name_tup e3
        exact ⟨_, _, hs, tkk, t, us, cc, m, rfl, ⟨a1, fun z => a2 (hYY _ z)⟩, ⟨a4, fun z => S'.offY 0 ⟨_, h0', rfl⟩ (by rw [T'.Y]; exact z)⟩, ⟨e2.1, fun z => e2.2 (hYY _ z)⟩, e4, n1, tks, n2, n3⟩
      | _ => exact ho.elim
  · cases r with
    | ok d => cases d <;> first | exact ho.elim | (obtain ⟨_, ho, _⟩ := ho; cases ho)
    | exc c' =>
      obtain ⟨ρ'', ho⟩ := ho
      injection ho with e1 e2; subst e1 e2
      exact leave_exc (s' := { heap := h', gens := gs, drawn := dr, toks := tk, os := os }) fok rfl rfl hx fun h'' a0 k fl => ex c e a0 h'' tk rfl k fl
section
variable {g : GI} {f : Fm} {n m : Nat} {ρ : En}
theorem St.fr {σ : Sp} {h : Heap} (ok : FmOk g f n) (S : St g f σ ρ h) : ∃ H1 m, g.K.In H1 ∧ Fr H1 f.L h m := by
  obtain ⟨H1, hK, hk, hz⟩ := ok.G.low
  obtain ⟨m, hns, _⟩ := S.ex
  exact ⟨H1, m, hK, hns, fun b o e => S.cs.keep b o (hk b o e), Nat.le_trans hz ok.big⟩
theorem Op2.cmpName {op : CmpOp} {fa : Addr} {a b : List (List UInt8)} {r : Bool} (hm : m ≤ n) (hn : notFirst g.K g.C (.ref g.C) = true) (hs : findIn g.K (.ref g.C) (cmpInfo op).2.1 = some (some (.ref fa))) (hf : isFn g.K (.ref fa) = true)
    (hF : Fn g m (.ref fa) [.name a, .name b] (.ok (.bool r))) (hop : compareOp op = richCompare op := by rfl) : Op2 g n (compareOp op) (.name a) (.name b) (.ok (.bool r)) := fun f ρ σ s Q E va vb ok S ra rb q ex => by
  rw [hop]
  obtain ⟨x, dx, t, h1, tk, nn, rfl, I, _⟩ := name_inst ra
  obtain ⟨y, dy, t', h2, tk', nn', rfl, J, _⟩ := name_inst rb
  obtain ⟨H1, mm, hK, F⟩ := S.fr ok
  refine cmp_K (by have := ok.room.2; omega) F hK I J.type hn hs hf ?_
  refine call_of ok hm S (by simp only [RepL]; exact ⟨_, _, rfl, ra, _, _, rfl, rb, rfl⟩) hF (fun v d h' tk e k rep => ?_) fun c e' h' tk ec => nomatch ec
  injection e with e; subst e
  have : v = .bool r := by simpa [Rep] using rep
  subst this
  exact q _ _ h' tk rfl k rep
theorem Ev.isInst {y : Str} {np yp pos : Pos} {e : Expr} {d : V} {T : Value} (ok : FmOk g f n) (hx : f.env.kindOf "isinstance" = some .globalImplicit) (gv : GV g "isinstance" (.builtin "isinstance")) (hy : f.env.kindOf y = some .globalImplicit) (gy : GV g y T)
    (he : Ev g f ρ e (.ok d)) (ht : (∃ b, d = .bytes b ∧ T = .type "bytes") ∨ (∃ ls, d = .name ls ∧ T = .ref g.C ∧ isIn g.K (.ref g.C) g.C = true))
    (hh : starEach [e, .Name y yp] f.env = (false, eval e f.env) :: starEach [.Name y yp] f.env := by rfl) :
    Ev g f ρ (.Call (.Name "isinstance" np) [e, .Name y yp] [] pos) (.ok (.bool true)) := fun σ s Q E S q ex => by
  refine wpAny_Call_ofName (gv f n np s _ _ ok hx S.cs ?_)
  refine callWith_of (P := fun h => g.K.In h) (by rw [hh]; rfl) (kept_looks kept_builtin) ?_
  rw [hh]
  refine evalArgs_plain (x := eval e f.env) (rest := backTo pos (starEach [.Name y yp] f.env)) ?_
  refine spliced_cons (x := eval e f.env) (rest := backTo pos (starEach [.Name y yp] f.env)) ?_
  refine he σ s _ _ S (fun v d' h₁ t₁ ed k₁ r₁ => ?_) fun c e' h' tk ec => nomatch ec
  injection ed with ed; subst ed
  have S₁ := S.mono ok k₁
  have X : g.K.In h₁ := ok.G.X.keeps S₁.cs.keep
  have e2 : starEach [.Name y yp] f.env = [(false, eval (.Name y yp) f.env)] := rfl
  rw [e2]
  refine spliced_cons (x := eval (.Name y yp) f.env) (rest := backTo pos []) (gy f n yp { s with heap := h₁, toks := t₁ } _ _ ok hy S₁.cs (spliced_nil ⟨X, ?_⟩))
  have fin : Q (.bool true) { s with heap := h₁, toks := t₁ } := q _ _ h₁ t₁ rfl k₁ (by simp only [Rep])
  rcases ht with ⟨b, rfl, rfl⟩ | ⟨ls, rfl, rfl, hi⟩
  · simp only [Rep] at r₁
    obtain ⟨⟨t, rfl⟩, _⟩ := r₁
    exact call_isinstance_yes (s := { s with heap := h₁, toks := t₁ }) rfl (by rfl) F.sub_bytes_bytes fin
  · obtain ⟨x, dx, t, h1, tk, nn, rfl, I, _⟩ := name_inst r₁
    exact isi_call (s := { s with heap := h₁, toks := t₁ }) (t := .ref g.C) X (fun M => I.type) hi (fun e => nomatch e) fin
end
section
variable {g : GI} {f : Fm} {n m : Nat} {ρ : En}
theorem Ev.cell {x : Str} {pos : Pos} {d : V} (ok : FmOk g f n) (i : Nat) (hx : f.nm[i]? = some x) (hy : x ∈ f.ys) (hm : ρ[i]? = some (some (.ce (some d)))) : Ev g f ρ (.Name x pos) (.ok d) := fun σ s Q E S q _ => by
  obtain ⟨m, hns, hv⟩ := S.ex
  obtain ⟨hl, v, hc, r⟩ := hv i x _ hx hm
  exact wpAny_Name (wpAny_loadName_cell ok.kind (ok.cel x hy) hl hc (q v d s.heap s.toks rfl (Kf.refl _ _) r)) (ok.ndb x (List.mem_append_right _ hy))
theorem Ev.cellB {x : Str} {pos : Pos} {d : V} (ok : FmOk g f n) (i : Nat) (hx : f.nm[i]? = some x) (hy : x ∈ f.ys) (hm : ρ[i]? = some (some (.bc d))) : Ev g f ρ (.Name x pos) (.ok d) := fun σ s Q E S q _ => by
  obtain ⟨m, hns, hv⟩ := S.ex
  obtain ⟨c, v, hl, ⟨o, hc, hd⟩, hf, r⟩ := hv i x _ hx hm
  exact wpAny_Name (wpAny_loadName_cell ok.kind (ok.cel x hy) hl ⟨o, (S.kE c o hc).1 hf, hd⟩ (q v d s.heap s.toks rfl (Kf.refl _ _) r)) (ok.ndb x (List.mem_append_right _ hy))
theorem store_cell {x : Str} {i : Nat} {o : Option V} {v : Value} {d : V} {σ : Sp} {s : Shared} {Q : Unit → Shared → Prop} {E : Value → Shared → Prop} (ok : FmOk g f n) (S : St g f σ ρ s.heap) (hx : f.nm[i]? = some x) (hy : x ∈ f.ys) (hm : ρ[i]? = some (some (.ce o)))
    (r : Rep g.C s.heap (XOf f σ ρ) d v) (h : ∀ h', St g f σ (ρ.set i (some (.ce (some d)))) h' → Trn f σ ρ s.heap σ (ρ.set i (some (.ce (some d)))) h' → Q () { s with heap := h' }) : wpAny (model g.prog g.w) f.A (storeName f.env x v) Q E s := by
  have ex := S.ex
  obtain ⟨m, hns, hv⟩ := ex
  obtain ⟨hl, hc⟩ := hv i x _ hx hm
  have isC : ∃ v₀, s.heap.IsCell (σ.α i) v₀ := by
    cases o with
    | none => exact ⟨_, hc⟩
    | some d₀ => obtain ⟨v₀, hc, _⟩ := hc; exact ⟨_, hc⟩
  obtain ⟨v₀, hc⟩ := isC
  refine wpAny_storeName_cell ok.kind (ok.cel x hy) hl hc fun h' hc' hs => ?_
  have aX : XOf f σ ρ (σ.α i) := .inr (.inr ⟨i, ⟨_, hm, rfl⟩, rfl⟩)
  have kx : KX (XOf f σ ρ) s.heap h' := fun c o ec nc => (hs.2 c fun z => nc (z ▸ aX)).trans ec
  obtain ⟨S₂, T₂⟩ := S.turn ok hm rfl (b' := .ce (some d)) rfl hs fun m₀ x₀ a₀ hv₀ ea => by
    subst ea
    have sub : ∀ b, XOf f σ (ρ.set i (some (.ce (some d)))) b → XOf f σ ρ b ∨ s.heap.get? b = none := fun b hb' => .inl ((X_set hm rfl rfl b).mp hb')
    exact ⟨hv₀.1, v, hc', r.mono kx sub⟩
  exact h h' S₂ T₂
theorem Ex.assignC {x : Str} {xp pos : Pos} {e : Expr} {rest : List Stmt} {o : Option V} {d : V} {O : Out → Prop} (ok : FmOk g f n) (i : Nat) (hx : f.nm[i]? = some x) (hy : x ∈ f.ys) (hm : ρ[i]? = some (some (.ce o))) (he : Ev g f ρ e (.ok d)) (h : Ex g f (ρ.set i (some (.ce (some d)))) rest O)
    (hs : swapsWith e (some (.Name x xp)) pos.line f.env = pure false := by rfl) : Ex g f ρ (.Assign [.Name x xp] e pos :: rest) O := fun σ s Q E S q ex => by
  refine wpAny_execs_cons (wpAny_Assign_Name (he σ s _ _ S (fun v d' h' tk er k rep => ?_) fun c e' h' tk er fl => nomatch er) hs)
  injection er with er; subst er
  exact store_cell (s := { s with heap := h', toks := tk }) ok (S.mono ok k) hx hy hm rep fun h'' S' T' => Ex.after (σ := σ) (ρ := ρ) (s := s) h S' ((k.trn).trans T') q ex
theorem Ex.augC {x : Str} {xp pos : Pos} {op : Operator} {e : Expr} {rest : List Stmt} {a b c : V} {O : Out → Prop} (ok : FmOk g f n) (i : Nat) (hx : f.nm[i]? = some x) (hy : x ∈ f.ys) (hm : ρ[i]? = some (some (.ce (some a)))) (he : Ev g f ρ e (.ok b)) (ho : Op2 g n (inplaceOp op) a b (.ok c))
    (h : Ex g f (ρ.set i (some (.ce (some c)))) rest O) : Ex g f ρ (.AugAssign (.Name x xp) op e pos :: rest) O := fun σ s Q E S q ex => by
  have ex' := S.ex
  obtain ⟨m, hns, hv⟩ := ex'
  obtain ⟨hl, v, hc, rv⟩ := hv i x _ hx hm
  refine wpAny_execs_cons (wpAny_AugAssign_Name (wpAny_loadName_cell ok.kind (ok.cel x hy) hl hc (he σ s _ _ S (fun u d h₁ t₁ e k₁ ru => ?_) fun c e' h' tk ec => nomatch ec)))
  injection e with e; subst e
  refine ho f ρ σ { s with heap := h₁, toks := t₁ } _ _ v u ok (S.mono ok k₁) (rmono S rv k₁) ru (fun w d h₂ t₂ e k₂ rw' => ?_) fun c e' h' tk ec => nomatch ec
  injection e with e; subst e
  exact store_cell (s := { s with heap := h₂, toks := t₂ }) ok (S.mono ok (k₁.trans k₂)) hx hy hm rw' fun h'' S' T' => Ex.after (σ := σ) (ρ := ρ) (s := s) h S' (((k₁.trans k₂).trn).trans T') q ex
theorem CompOk.cell {x y : Str} {iter elt : Expr} {scope : Scope} {items es : List V} {d₀ : V} (ok : FmOk g f n) (i : Nat) (hy : f.nm[i]? = some y) (hym : y ∈ f.ys) (hm : ρ[i]? = some (some (.ce (some d₀)))) (sc : CompS f scope x [y])
    (hcl : ∀ c, f.env.cells.lookup y = some c → closureFor scope f.env = pure [(y, c)])
    (hi : ItSrc g f ρ iter items) (hlen : items.length ≤ sizeLine) (hes : es.length = items.length)
    (he : ∀ (k : Nat) (d e : V), items[k]? = some d → es[k]? = some e → ∀ f' : Fm, FmOk g f' n → f'.env.scope = relabel scope f.env → f'.xs = [x] → f'.ys = [y] → Ev g f' [some (.sh d), some (.bc d₀)] elt (.ok e))
    (hex : ∃ c, f.env.cells.lookup y = some c)
    (hs : ∀ x, foldedSetIterable iter f.env x = pure x := by intro _; rfl) : CompOk g f n ρ x iter elt scope es := by
  obtain ⟨c, hc⟩ := hex
  refine ⟨⟨items, [d₀], [y], [(y, c)], sc, hi, hlen, hes, fun σ h S => ⟨hcl c hc, by simp, fun j z d hz hd => ?_⟩, he⟩, hs⟩
  cases j with
  | succ j => simp at hz
  | zero =>
    simp at hz hd; subst hz; subst hd
    have ex' := S.ex
    obtain ⟨m, hns, hv⟩ := ex'
    obtain ⟨hl, v, hcell, rv⟩ := hv i y _ hy hm
    rw [hc] at hl; injection hl with hl
    have fr := S.fresh i ⟨_, hm, rfl⟩
    exact ⟨c, v, by simp, by rw [hl]; exact hcell, by rw [hl]; exact own_off ok fr.1 fr.2.1, rv⟩
end
def ArgOk (g : GI) (h : Heap) (l : List Env) (Y : Addr → Prop) : B → Value → Prop
  | .sh d, v => Rep g.C h Y d v
  | .bo ds, v => ∃ a us m, v = .ref a ∧ h.get? a = some (lobj us m) ∧ a ∉ fsOf l ∧ RepL g.C h Y ds us ∧ us.length ≤ sizeLine
  | _, _ => False
theorem ArgOk.owns {g : GI} {h : Heap} {l : List Env} {Y : Addr → Prop} {b : B} {v : Value} (x : ArgOk g h l Y b v) : b.owns = false := by cases b <;> first | rfl | exact x.elim
theorem ArgOk.var {g : GI} {f : Fm} {h₁ : Heap} {Y X : Addr → Prop} {b : B} {v : Value} {m : Str → Option Value} {a : Addr} {x : Str} (r : ArgOk g f.hE f.outer Y b v) (hk : ∀ b o, f.hE.get? b = some o → h₁.get? b = some o) (hX : ∀ b, X b → Y b ∨ f.hE.get? b = none) (hm : m x = some v) :
    VarOk g f h₁ X m a x b := by
  cases b with
  | sh d => exact ⟨v, hm, Rep.mono (fun b o e _ => hk b o e) hX r⟩
  | bo ds => obtain ⟨a, us, mm, rfl, e1, e2, e3, e4⟩ := r; exact ⟨a, us, mm, hm, e1, e2, e3.mono (fun b o e _ => hk b o e) hX, e4⟩
  | _ => exact r.elim
def ArgsOk (g : GI) (h : Heap) (l : List Env) (Y : Addr → Prop) (bs : List B) (vs : List Value) : Prop := vs.length = bs.length ∧ ∀ (i : Nat) (b : B) (v : Value), bs[i]? = some b → vs[i]? = some v → ArgOk g h l Y b v
def FnA (g : GI) (n : Nat) (fv : Value) (bs : List B) (r : Res) : Prop :=
  ∀ (A : Around) (l : List Env) (Y : Addr → Prop) (vs : List Value) (s : Shared) (R : Result → Shared → Prop), g.Ok → A.frames = some l → A.handled = none → Room A n →
    CallSt g l s.heap → (∀ b ∈ fsOf l, Y b) → (∀ b, Y b → ∃ o, s.heap.get? b = some o) → (∀ b, Y b → g.H0.get? b = none) → ArgsOk g s.heap l Y bs vs →
    (∀ v d h' tk, r = .ok d → Kf (fsOf l) s.heap h' → Rep g.C h' Y d v → R (.ok (.ret v)) { s with heap := h', toks := tk }) →
    (∀ c e a0 h' tk, r = .exc c → Kf (fsOf l) s.heap h' → Heap.FlyingW (hideAll s.heap (fsOf l)) l e c a0 h' → R (.error (.ref e)) { s with heap := h', toks := tk }) →
    codeAny (model g.prog g.w) A (.call fv ⟨vs, []⟩) R s
theorem FnA.fn {g : GI} {n : Nat} {fv : Value} {ds : List V} {r : Res} (h : FnA g n fv (ds.map .sh) r) : Fn g n fv ds r := fun A l Y vs s R ok hA hh room cs hY hYex hY0 hr q ex =>
  h A l Y vs s R ok hA hh room cs hY hYex hY0 ⟨by rw [RepL.length hr]; simp, fun i b v hb hv => by
    simp only [List.getElem?_map] at hb
    cases z : ds[i]? with
    | none => rw [z] at hb; cases hb
    | some d =>
      rw [z] at hb; simp at hb; subst hb
      obtain ⟨v', e, r⟩ := RepL.get hr z
      rw [e] at hv; injection hv with hv; subst hv; exact r⟩ q ex
theorem bindL_zip {kindOf : Str → Option NameKind} : ∀ {names : List Str} {vs : List Value} {m : Str → Option Value}, (∀ y ∈ names, kindOf y = some .local) →
    (∀ y, y ∉ names → bindL kindOf (names.zip vs) m y = m y) ∧ (names.Nodup → ∀ (i : Nat) (x : Str) (v : Value), names[i]? = some x → vs[i]? = some v → bindL kindOf (names.zip vs) m x = some v)
  | [], vs, m, hl => ⟨fun _ _ => rfl, fun _ i x v hx => by simp at hx⟩
  | y :: ys, [], m, hl => ⟨fun _ _ => rfl, fun _ i x v _ hv => by simp at hv⟩
  | y :: ys, u :: us, m, hl => by
    have hy : kindOf y = some .local := hl y (.head _)
    obtain ⟨ih1, ih2⟩ := @bindL_zip kindOf ys us (fun z => if z = y then some u else m z) fun z hz => hl z (.tail _ hz)
    have e : bindL kindOf ((y :: ys).zip (u :: us)) m = bindL kindOf (ys.zip us) (fun z => if z = y then some u else m z) := by
      simp only [List.zip_cons_cons, bindL, hy, if_true]
    refine ⟨fun z hz => ?_, fun hn i x v hx hv => ?_⟩
    · rw [e, ih1 z fun h => hz (.tail _ h)]
      simp [show z ≠ y from fun h => hz (h ▸ .head _)]
    · rw [e]
      obtain ⟨n1, n2⟩ := List.nodup_cons.mp hn
      cases i with
      | zero => simp at hx hv; subst hx; subst hv; rw [ih1 y n1]; simp
      | succ i => simp at hx hv; exact ih2 n2 i x v hx hv
theorem bindC_zip {kindOf : Str → Option NameKind} {m : Str → Option Value} : ∀ {names : List Str} {vs : List Value}, (∀ y ∈ names, kindOf y = some .local) → bindC kindOf (names.zip vs) m = m
  | [], _, _ => rfl
  | _ :: _, [], _ => rfl
  | y :: ys, u :: us, hl => by
    simp only [List.zip_cons_cons, bindC, hl y (.head _), if_true]
    exact bindC_zip fun z hz => hl z (.tail _ hz)
def ceEn (k : Nat) (bs : List B) : En := bs.map some ++ (List.replicate k none ++ [some (.ce none)])
theorem ceEn_get {k : Nat} {bs : List B} {i : Nat} {b : B} (h : (ceEn k bs)[i]? = some (some b)) : bs[i]? = some b ∨ (i = bs.length + k ∧ b = .ce none) := by
  unfold ceEn at h
  rcases Nat.lt_or_ge i bs.length with hi | hi
  · rw [List.getElem?_append_left (by simpa using hi)] at h
    simp only [List.getElem?_map] at h
    cases q : bs[i]? with
    | none => rw [q] at h; cases h
    | some d => rw [q] at h; simp at h; exact .inl (by rw [h])
  · rw [List.getElem?_append_right (by simpa using hi)] at h
    simp only [List.length_map] at h
    right
    rcases Nat.lt_or_ge (i - bs.length) k with hj | hj
    · rw [List.getElem?_append_left (by simpa using hj)] at h
      have := List.mem_of_getElem? h
      have := (List.mem_replicate.mp this).2; cases this
    · rw [List.getElem?_append_right (by simpa using hj)] at h
      simp only [List.length_replicate] at h
      cases q : i - bs.length - k with
      | zero => rw [q] at h; simp at h; exact ⟨by rw [← Nat.le_antisymm (Nat.le_of_sub_eq_zero q) hj]; exact (Nat.add_sub_of_le hi).symm, h.symm⟩
      | succ j => rw [q] at h; simp at h
theorem FnA.introC {g : GI} {n : Nat} {fa : Addr} {bs : List B} {r : Res} {names loc : List Str} {y : Str} {name qual : Str} {params : Arguments} {body : List Stmt} {scope : Scope} {dV kV doc pm cdv ct oc : Value} {an od : Option Addr} {osl : Array (Option Value)}
    (ho : g.K.lookup fa = some ⟨oc, od, .func (fnOf name qual params body scope dV kV doc pm an cdv ct), osl⟩) (hcd : codeIn g.K cdv qual = true)
    (hbind : ∀ (vs : List Value), vs.length = bs.length → bindArgs (fnOf name qual params body scope dV kV doc pm an cdv ct) ⟨vs, []⟩ = pure (names.zip vs))
    (hn : (names ++ loc ++ [y]).Nodup) (hlen : names.length = bs.length) (hloc : ∀ z ∈ names ++ loc, scope.names.lookup z = some .local) (hcel : scope.names.lookup y = some .cell) (hdb : ∀ x ∈ names ++ loc ++ [y], (x == ("__debug__" : Str)) = false)
    (hcells : ∀ k, ∃ c, (cellsFrom k scope.names []).lookup y = some c)
    (hb : ∀ f : Fm, FmOk g f n → f.env.scope = scope → f.xs = names ++ loc → f.ys = [y] → (∃ c, f.env.cells.lookup y = some c) → Ex g f (ceEn loc.length bs) body (RetO r))
    (hco : scope.isCoroutine = false := by rfl) (hgen : scope.isGenerator = false := by rfl) (hk : scope.kind = .function := by rfl) :
    FnA g (n + 1) (.ref fa) bs r := by
  intro A l Y vs s R ok hA hh room cs hY hYex hY0 hr q ex
  obtain ⟨hvl, hr⟩ := hr
  have X : g.K.In s.heap := ok.X.keeps cs.keep
  have hL : s.heap.get? s.heap.objs.size = none := none_of_ge (Nat.le_refl _)
  have h00 : ∀ {a}, s.heap.get? a = none → g.H0.get? a = none := fun {a} e => by
    cases z : g.H0.get? a with
    | none => rfl
    | some o => rw [cs.keep a o z] at e; cases e
  have hnn : names.Nodup := (List.nodup_append.mp (List.nodup_append.mp hn).1).1
  have hln : ∀ z ∈ names, scope.names.lookup z = some .local := fun z hz => hloc z (List.mem_append_left _ hz)
  refine codeAny_call_cells (fd := fnOf name qual params body scope dV kV doc pm an cdv ct) (body := body) (binds := names.zip vs) (by have := room.1; omega) (X _ _ ho) rfl
    (ok.T.nolimit.keeps cs.keep) (codeRec_of X hcd) rfl (hbind vs hvl) rfl (fun z hz => .inl (hln _ (List.of_mem_zip (a := z.1) (b := z.2) hz).1)) (fun s₁ C => ?_) hco hgen hk
  obtain ⟨h₁, tk₁, rfl, hk₁⟩ := C.done
  generalize hce : callEnvC (fnOf name qual params body scope dV kV doc pm an cdv ct) s.heap.objs.size fa = env at *
  have es : env.scope = scope := by rw [← hce]; rfl
  have eL : env.locals = s.heap.objs.size := by rw [← hce]; rfl
  have ec : env.cells = cellsFrom (s.heap.objs.size + 1) scope.names [] := by rw [← hce]; rfl
  have ek : ∀ z, env.kindOf z = scope.names.lookup z := fun z => by rw [← hce]; rfl
  have ef : env.frame = some s.heap.objs.size := by rw [← hce]; rfl
  have eg : env.globals = mainGlobals := by rw [← hce]; rfl
  have eb : env.builtins = builtinsNs := by rw [← hce]; rfl
  have hln' : ∀ z ∈ names, env.kindOf z = some .local := fun z hz => (ek z).trans (hln z hz)
  obtain ⟨c, hc⟩ := hcells (s.heap.objs.size + 1)
  have hcc : env.cells.lookup y = some c := by rw [ec]; exact hc
  have cell : h₁.IsCell c none := by
    have := C.cell y c hcc
    rw [bindC_zip hln'] at this
    exact this
  have hcL : s.heap.objs.size < c := by have := C.above y c (mem_of_lookup hcc); rwa [eL] at this
  have nC : s.heap.get? c = none := none_of_ge (Nat.le_of_lt hcL)
  let f : Fm := ⟨env, A.deeper env, env :: l, l, s.heap, names ++ loc, [y]⟩
  have fL : f.L = s.heap.objs.size := eL
  have fok : FmOk g f n := {
    G := ok
    fr := Around.frames_deeper hA
    hd := hh
    room := ⟨by show A.depth + 1 + 3 * n < recursionLimit; have := room.1; omega, by show A.units + 3 + 8 * n < cLine; have := room.2; omega⟩
    kind := by show env.scope.kind = _; rw [es]; exact hk
    eG := eg
    eB := eb
    stk := fun h ⟨o, e, hd⟩ ff => ⟨by rw [es, hk]; decide, ⟨_, o, ef, h00 hL, by rw [← fL]; exact e, hd⟩, ff⟩
    sub := fun b hb => by
      have : fsOf (env :: l) = s.heap.objs.size :: fsOf l := by unfold fsOf; rw [List.filterMap_cons, ef]
      rw [show f.stack = env :: l from rfl, this] at hb
      rw [Fm.fs_eq, fL]; exact hb
    big := by rw [fL]; exact ok.big X
    newL := by rw [fL]; exact hL
    newL0 := by rw [fL]; exact h00 hL
    nodup := hn
    loc := fun z hz => (ek z).trans (hloc z hz)
    cel := fun z hz => by have : z = y := by simpa [f] using hz
                          rw [this]; exact (ek y).trans hcel
    ndb := hdb
    csE := cs }
  have own0 : ∀ {i}, Own (ceEn loc.length bs) i → i = bs.length + loc.length := fun {i} ⟨b, hb, ho⟩ => by
    rcases ceEn_get hb with hb' | ⟨e, _⟩
    · have hi := (List.getElem?_eq_some_iff.mp hb').1
      obtain ⟨v, hv⟩ : ∃ v, vs[i]? = some v := ⟨_, List.getElem?_eq_getElem (by omega)⟩
      rw [(hr i b v hb' hv).owns] at ho; cases ho
    · exact e
  have S : St g f ⟨Y, fun _ => c⟩ (ceEn loc.length bs) h₁ := by
    have hX : ∀ b, XOf f ⟨Y, fun _ => c⟩ (ceEn loc.length bs) b → Y b ∨ s.heap.get? b = none := fun b hb => by
      rcases hb with hb | hb | ⟨i, hi, hb⟩
      · exact .inl hb
      · right; rw [hb, fL]; exact hL
      · right; rw [hb]; exact nC
    have ns := C.toInCall.ns
    rw [← hce] at ns
    have ns' : h₁.Ns f.L (bindL env.kindOf (names.zip vs) fun _ => none) := by
      have := C.toInCall.ns
      exact this
    refine ⟨⟨_, ns', ?_⟩, cs.mono (fs := []) (fun b hb => nomatch hb) (Kf.of_keeps hk₁), Kf.of_keeps hk₁, fun i j hi hj _ => (own0 hi).trans (own0 hj).symm, fun i hi => ⟨nC, by rw [fL]; exact Nat.ne_of_gt hcL, h00 nC⟩, by simp [ceEn, f, hlen]; omega, hY, fun b hb => let ⟨o, e⟩ := hYex b hb; ⟨o, hk₁ b o e⟩,
      (fun i hi m => by obtain ⟨o, e⟩ := hYex c m; rw [nC] at e; cases e), hY0⟩
    intro i x b hx hb
    rcases ceEn_get hb with hb' | ⟨rfl, rfl⟩
    · have hi : i < names.length := by have := (List.getElem?_eq_some_iff.mp hb').1; omega
      have hx' : names[i]? = some x := by
        rw [← hx]; show _ = (names ++ loc ++ [y])[i]?
        rw [List.append_assoc]; exact (List.getElem?_append_left hi).symm
      obtain ⟨v, hv⟩ : ∃ v, vs[i]? = some v := ⟨_, List.getElem?_eq_getElem (by omega)⟩
      exact ArgOk.var (f := f) (Y := Y) (hr i b v hb' hv) hk₁ hX ((bindL_zip hln').2 hnn i x v hx' hv)
    · have : x = y := by
        have e : (names ++ loc ++ [y])[bs.length + loc.length]? = some y := by
          rw [List.getElem?_append_right (by simp [hlen]), ← hlen]; simp
        have : some x = some y := hx.symm.trans e
        injection this
      subst this
      exact ⟨hcc, cell⟩
  refine hb f fok es rfl rfl ⟨c, hcc⟩ _ _ _ _ S (fun fl o h' tk ho hok => ?_) (fun cv ρ' e h' tk ho hx => ?_)
  · cases r with
    | exc c => obtain ⟨ρ', rfl⟩ := ho; exact hok.elim
    | ok d =>
      rcases ho with rfl | ⟨rfl, ρ', rfl⟩
      · obtain ⟨v, rfl, c, k, rep⟩ := hok
        exact q v d h' tk rfl k rep
      · obtain ⟨rfl, σ, S', _⟩ := hok
        exact q .none .none h' tk rfl S'.kE (by simp only [Rep])
  · cases r with
    | ok d =>
      rcases ho with ho | ⟨_, _, ho⟩ <;> cases ho
    | exc c' =>
      obtain ⟨ρ'', ho⟩ := ho
      injection ho with e1 e2; subst e1 e2
      exact leave_exc (s' := { heap := h', gens := s.gens, drawn := s.drawn, toks := tk, os := s.os }) fok rfl (ef.trans (congrArg some fL.symm)) hx fun h'' a0 k fl => ex cv e a0 h'' tk rfl k fl
mutual
def KRep (K : Frag) : V → Value → Prop
  | .int i, v => ∃ t, v = .int i t
  | .tup ds, v => ∃ a vs n, v = .ref a ∧ K.lookup a = some (tobj vs n) ∧ KRepL K ds vs ∧ vs.length ≤ sizeLine
  | _, _ => False
def KRepL (K : Frag) : List V → List Value → Prop
  | [], vs => vs = []
  | d :: ds, vs => ∃ v r, vs = v :: r ∧ KRep K d v ∧ KRepL K ds r
end
mutual
theorem KRep.rep {K : Frag} {C : Addr} {h H0 : Heap} {X : Addr → Prop} (hK : K.In H0) (hk : ∀ b o, H0.get? b = some o → h.get? b = some o) (hX : ∀ b, X b → H0.get? b = none) : ∀ {d : V} {v : Value}, KRep K d v → Rep C h X d v
  | .int _, _, r => by simpa [KRep, Rep] using r
  | .tup ds, _, r => by
    simp only [KRep] at r
    simp only [Rep]
    obtain ⟨a, vs, n, e1, e2, e3, e4⟩ := r
    have e5 := hK a _ e2
    exact ⟨a, vs, n, e1, ⟨hk _ _ e5, fun m => by rw [hX a m] at e5; cases e5⟩, KRepL.rep hK hk hX e3, e4⟩
  | .none, _, r => by simp [KRep] at r
  | .bool _, _, r => by simp [KRep] at r
  | .bytes _, _, r => by simp [KRep] at r
  | .list _, _, r => by simp [KRep] at r
  | .name _, _, r => by simp [KRep] at r
  | .scr _, _, r => by simp [KRep] at r
theorem KRepL.rep {K : Frag} {C : Addr} {h H0 : Heap} {X : Addr → Prop} (hK : K.In H0) (hk : ∀ b o, H0.get? b = some o → h.get? b = some o) (hX : ∀ b, X b → H0.get? b = none) : ∀ {ds : List V} {vs : List Value}, KRepL K ds vs → RepL C h X ds vs
  | [], _, r => by simpa [KRepL, RepL] using r
  | d :: ds, _, r => by
    simp only [KRepL] at r
    simp only [RepL]
    obtain ⟨v, t, e, r1, r2⟩ := r
    exact ⟨v, t, e, KRep.rep hK hk hX r1, KRepL.rep hK hk hX r2⟩
end
theorem Ev.glob {g : GI} {f : Fm} {n : Nat} {ρ : En} {x : Str} {pos : Pos} {d : V} {v : Value} (ok : FmOk g f n) (hx : f.env.kindOf x = some .globalImplicit) (gv : GV g x v) (hr : KRep g.K d v) : Ev g f ρ (.Name x pos) (.ok d) := fun σ s Q E S q _ =>
  gv f n pos s _ _ ok hx S.cs (q v d s.heap s.toks rfl (Kf.refl _ _) (hr.rep ok.G.X S.cs.keep fun b hb => S.X0 ok hb))
section
variable {prog : Program} {w : World} {A : Around} {E : Value → Shared → Prop} {s : Shared}
end
section
variable {prog : Program} {w : World} {A : Around} {E : Value → Shared → Prop} {s : Shared}
end
section
variable {g : GI} {n : Nat}
end
section
variable {prog : Program} {w : World} {A : Around} {E : Value → Shared → Prop} {s : Shared} {K : Frag} {C : Addr}
theorem exm_self {M : Model} {h : Heap} (X : K.In h) (hc : exmOne K (.ref C) (.ref C) = some true) : Looks M h (typeOf (.ref C)) (.type "type") ∧ Looks M h (isType (.ref C)) true ∧ Looks M h (isSubtype (.ref C) (.ref C)) true := by
  unfold exmOne at hc
  split at hc
  · exact kit_cls X hc
  · cases hc
theorem sub_nested {k : Value} {dep : Int} {tk : Tok} {Q : Fin → Shared → Prop} (X : K.In s.heap) (hc : exmOne K (.ref C) (.ref C) = some true) (hk : k = .int dep tk) (hq : Q (.done (.ret (.bool true))) s) :
    wpAny (model prog w) A (Builtin.«issubclass.nested» ⟨[.ref C, .ref C, k], []⟩) Q E s := by
  subst hk
  obtain ⟨L1, L2, L3⟩ := exm_self (M := model prog w) X hc
  obtain ⟨h, g, d, tk, os⟩ := s
  repeat (any_goals (first | assumption | with_reducible exact L1.here ‹_› | lk | wp_step))
theorem sub_self (hc : exmOne K (.ref C) (.ref C) = some true) : Meets (Builtin.«issubclass» ⟨[.ref C, .ref C], []⟩) (fun _ R s => K.In s.heap ∧ R (.ok (.ret (.bool true))) s) :=
  fun _ _ _ _ _ hs => issubclass_outer (sub_nested hs.1 hc rfl hs.2)
theorem raise_own {env : Env} {x : Str} {np pos : Pos} {Q : Flow → Shared → Prop} {p : Program} {loose : List Str} {mg mb : Str → Option Value} {h₀ : Heap} {B newId initId : String} {bmB : List Value} (hh : A.handled = none) (X : K.In s.heap) (X0 : K.In h₀) (T : TopRead p loose mg mb h₀)
    (hk0 : ∀ b o, h₀.get? b = some o → s.heap.get? b = some o)
    (ex : nsIn K mainGlobals x = some (some (.ref C))) (q : excIn K C bmB newId = true) (hc : exmOne K (.ref C) (.ref C) = some true) (hb : subIn K (.ref C) (.type "BaseException") = some true) (F : ExcBaseFacts B newId initId bmB)
    (hx : ∀ (Q' : Value → Shared → Prop), Q' (.ref C) s → wpAny (model prog w) A (eval (.Name x np) env) Q' E s)
    (h : ∀ h' e, Heap.MadeExcOf s.heap h' e (.ref C) [] → E (.ref e) { s with heap := h' }) :
    wpAny (model prog w) A (exec (.Raise (some (.Name x np)) none pos) env) Q E s := by
  show wpAny (model prog w) A (do standAt pos; raiseStmt env (some (do let v ← eval (.Name x np) env; standAt pos; pure v)) none) Q E s
  refine wpAny_bind (wpAny_standAt ?_)
  unfold raiseStmt
  dsimp only
  refine wpAny_bind (wpAny_bind (hx _ (wpAny_bind (wpAny_standAt (wpAny_pure ?_)))))
  refine wpAny_bind (wpAny_pure ?_)
  dsimp only
  refine wpAny_bind (wpAny_holding ?_)
  obtain ⟨L1, _⟩ := exm_cls (M := model prog w) X hc
  unfold excFromValue
  refine wpAny_bind (L1.here ?_)
  rw [if_pos rfl]
  obtain ⟨tl, N, nm, qq, bs, hdct, sn, sub, ab, col, dd, k0, k1, k2, k3, k5, mN, hC, hN, hni, TT⟩ := ((own_of_in X0 T ex q).keeps hk0).obj
  obtain ⟨hp, gg, dd', tk, os⟩ := s
  refine wpAny_bind (wpAny_call_exc_subT F TT hC hN hni (fun h' e hm => ?_) (Nat.zero_le _))
  obtain ⟨t, ht, hnt, htt⟩ := hm.there
  have X' : K.In h' := X.keeps hm.keeps
  have LTe : Looks (model prog w) h' (typeOf (.ref e)) (.ref C) := (Looks.ld ht).andThen .now
  have LI : Looks (model prog w) h' (isInstance (.ref e) (.type "BaseException")) true := LTe.andThen (looks_subIn X' hb)
  refine wpAny_bind (LI.at ?_)
  simp only [Bool.not_true, Bool.false_eq_true, if_false]
  refine wpAny_pure ?_
  obtain ⟨_, LT, _⟩ := exm_self (M := model prog w) X' hc
  refine wpAny_bind (LT.at ?_)
  rw [if_pos rfl]
  refine wpAny_bind (wpAny_holding ?_)
  unfold raisedFor
  simp only [Bool.false_eq_true, if_false]
  refine wpAny_bind (LTe.at ?_)
  refine wpAny_bind (call_issubclass (sub_self hc) ⟨X', ?_⟩)
  dsimp only [wants]
  refine wpAny_bind (wpAny_truthy_bool ?_)
  rw [if_pos rfl]
  refine wpAny_pure ?_
  unfold setFlight raiseNew
  refine wpAny_bind (wpAny_bind (wpAny_field (i := 1) (x := Value.none) ht rfl rfl ?_))
  rw [if_neg (by decide)]
  refine wpAny_pure (wpAny_bind (wpAny_handled ?_))
  rw [hh]
  first
    | exact wpAny_throw (h h' e hm)
    | exact wpAny_bind (wpAny_pure (wpAny_throw (h h' e hm)))
end
structure ExcK (g : GI) (x : Str) (C : Addr) : Prop where
  ex : nsIn g.K mainGlobals x = some (some (.ref C))
  q : excIn g.K C [.type "Exception", .type "BaseException", .type "object"] "Exception.__new__" = true
  hc : exmOne g.K (.ref C) (.ref C) = some true
  hb : subIn g.K (.ref C) (.type "BaseException") = some true
section
variable {g : GI} {f : Fm} {n : Nat} {ρ : En}
theorem name_any {A : Around} {env : Env} {x : Str} {v : Value} {pos : Pos} {s : Shared} {Q : Value → Shared → Prop} {E : Value → Shared → Prop} (ok : g.Ok) (hk : env.scope.kind = .function) (eG : env.globals = mainGlobals) (eB : env.builtins = builtinsNs)
    (hx : env.kindOf x = some .globalImplicit) (hd : (x == ("__debug__" : Str)) = false) (hc : KtsName g.K x v) (keep : ∀ b o, g.H0.get? b = some o → s.heap.get? b = some o) (h : Q v s) : wpAny (model g.prog g.w) A (eval (.Name x pos) env) Q E s := by
  rcases hc with e | ⟨e, hv, hn⟩
  · exact Calls.Name_function_global hk hx (Calls.loadGlobal_global (env := env) (eG ▸ ok.T.g.keeps keep) (mg_of ok.X ok.T.g e) h) hd
  · exact Calls.Name_function_global hk hx (Calls.loadGlobal_builtin (env := env) (eG ▸ ok.T.g.keeps keep) (mg_none_of ok.X ok.T.g e) (eB ▸ ok.T.b.keeps keep) ((ok.T.builtins x hn).trans hv) h) hd
theorem Ex.raiseOwn {x : Str} {np pos : Pos} {C : Addr} {rest : List Stmt} {O : Out → Prop} (ok : FmOk g f n) (hx : f.env.kindOf x = some .globalImplicit) (hC : ExcK g x C) (h : O (.exc (.ref C) ρ)) (hd : (x == ("__debug__" : Str)) = false := by rfl) :
    Ex g f ρ (.Raise (some (.Name x np)) none pos :: rest) O := fun σ s Q E S q ex => by
  refine wpAny_execs_cons (raise_own (p := g.p) (loose := g.loose) (mg := g.mg) (mb := g.mb) (h₀ := g.H0) ok.hd (ok.G.X.keeps S.cs.keep) ok.G.X ok.G.T S.cs.keep hC.ex hC.q hC.hc hC.hb PySem.F.excBase_Exception (fun Q' hq => name_any ok.G ok.kind ok.eG ok.eB hx hd (.inl hC.ex) S.cs.keep hq) fun h' e hm => ?_)
  exact ex (.ref C) ρ e h' s.toks h ⟨σ, s.heap, S, Trn.refl .., .inr ⟨[], hm⟩⟩
inductive Catch (g : GI) (f : Fm) (c : Value) : List ExceptHandler → Int → Prop
  | hit {x : Str} {v : Value} {np cp rp p : Pos} {kk : Nat} {k : Int} {rest : List ExceptHandler} (hn : KtsName g.K x v) (hx : f.env.kindOf x = some .globalImplicit) (hd : (x == ("__debug__" : Str)) = false) (he : exmOne g.K c v = some true) :
      Catch g f c (.ExceptHandler (some (.Name x np)) none [.Return (some (.Constant (.int k) kk cp)) rp] p :: rest) k
  | skip {x : Str} {v : Value} {np p : Pos} {k : Int} {body : List Stmt} {rest : List ExceptHandler} (hn : KtsName g.K x v) (hx : f.env.kindOf x = some .globalImplicit) (hd : (x == ("__debug__" : Str)) = false) (he : exmOne g.K c v = some false) (h : Catch g f c rest k) :
      Catch g f c (.ExceptHandler (some (.Name x np)) none body p :: rest) k
theorem kf_fly {σ : Sp} {h₁ h' : Heap} {e : Addr} {c a0 : Value} (ok : FmOk g f n) (S : St g f σ ρ h₁) (fl : Heap.FlyingW (hideAll h₁ f.fs) f.stack e c a0 h') (up : h₁.UpToSlots h') : Kf f.fs h₁ h' := fun b o eb => by
  have xx : b ∉ f.fs → h'.get? b = some o := fun nb => fl.1 b o (hideAll_get _ eb nb)
  refine ⟨xx, ?_⟩
  by_cases hb : b ∈ f.fs
  · have nf : ∀ vs, o.data ≠ .fields vs := by
      rw [Fm.fs_eq] at hb
      rcases List.mem_cons.mp hb with rfl | hb
      · obtain ⟨m, ⟨oL, es, ep, hL, hd, _⟩, _⟩ := S.ex
        rw [eb] at hL; cases hL
        intro vs q; rw [hd] at q; cases q
      · obtain ⟨o', e', nf⟩ := (S.cs.ff.mem hb).2
        rw [eb] at e'; cases e'; exact nf
    exact up b o eb nf
  · exact ⟨o.slots, xx hb⟩
theorem catch_run {σ : Sp} {h₁ : Heap} {e : Addr} {c a0 : Value} {hs : List ExceptHandler} {k : Int} (ok : FmOk g f n) (S : St g f σ ρ h₁) (hc : Catch g f c hs k) :
    ∀ (s : Shared) (Q : Flow → Shared → Prop) (E : Value → Shared → Prop), Heap.FlyingW (hideAll h₁ f.fs) f.stack e c a0 s.heap → h₁.UpToSlots s.heap →
      (∀ h' t tk, Kf f.fs h₁ h' → Q (.ret (.int k t)) { s with heap := h', toks := tk }) → wpAny (model g.prog g.w) f.A (handleBy (.ref e) f.env hs) Q E s := by
  induction hc with
  | hit hn hx hd he =>
    intro s Q E fl up q
    have kf := kf_fly ok S fl up
    have keep : ∀ b o, g.H0.get? b = some o → s.heap.get? b = some o := (S.mono ok kf).cs.keep
    have X : g.K.In s.heap := ok.G.X.keeps keep
    have LT : Looks (model g.prog g.w) s.heap (typeOf (.ref e)) c := by
      obtain ⟨ob, hob, hcl⟩ := fl.there
      subst hcl
      exact (Looks.ld hob).andThen .now
    refine wpAny_handleBy_cons (codeAny_handlers_test (name_any ok.G ok.kind ok.eG ok.eB hx hd hn keep ((exm_one X LT he).here ?_))) (by intro q; cases q)
    refine codeAny_handlers_suite ?_
    refine lands_againW fl fun h₆ fl₆ up₆ => ?_
    refine wpAny_execs_cons (wpAny_Return_some (wpAny_Constant_int ?_))
    exact q h₆ _ _ (kf_fly ok S fl₆ (up.trans up₆))
  | skip hn hx hd he h ih =>
    intro s Q E fl up q
    have kf := kf_fly ok S fl up
    have keep : ∀ b o, g.H0.get? b = some o → s.heap.get? b = some o := (S.mono ok kf).cs.keep
    have X : g.K.In s.heap := ok.G.X.keeps keep
    have LT : Looks (model g.prog g.w) s.heap (typeOf (.ref e)) c := by
      obtain ⟨ob, hob, hcl⟩ := fl.there
      subst hcl
      exact (Looks.ld hob).andThen .now
    refine wpAny_handleBy_cons (codeAny_handlers_test (name_any ok.G ok.kind ok.eG ok.eB hx hd hn keep ((exm_one X LT he).here ?_))) (by intro q; cases q)
    exact ih s Q E fl up q
theorem note_made {base h : Heap} {A : Around} {env : Env} {outer : List Env} {L e : Addr} {cls : Value} {args : List Value} {s : Shared} {Q : Unit → Shared → Prop} {E : Value → Shared → Prop} {M : Model}
    (hfr : A.frames = some (env :: outer)) (hf : env.frame = some L) (hkb : base.StaysIn h) (hl : h.FunFrames base (env :: outer)) (hx : Heap.MadeExcOf h s.heap e cls args)
    (hQ : ∀ h' t, Heap.HeldW base (env :: outer) e cls (.ref t) L h' → s.heap.UpToSlots h' → Q () { s with heap := h' }) : wpAny M A (noteFrame (.ref e) env) Q E s := by
  obtain ⟨t, he, htn, ht⟩ := hx.there
  have fresh : ∀ b, h.get? b = none → base.get? b = none := fun b hb => by
    cases hq : base.get? b with
    | none => rfl
    | some o' => have := hkb b o' hq; rw [hb] at this; cases this
  unfold noteFrame
  simp only [hf]
  refine wpAny_bind (wpAny_field (i := 1) (x := Value.none) he rfl rfl ?_)
  rw [if_neg (by decide)]
  refine wpAny_entryW (a0 := .ref t) hfr (hl.of_keeps fun b o hb _ => ⟨o, hx.keeps b o hb, rfl⟩) hf he (fun b o hb => hx.keeps b o (hkb b o hb)) (fresh e hx.new) rfl (by simp) rfl fun h' hN => ?_
  obtain ⟨k1, k2, k3, k4⟩ := hN
  exact hQ h' t ⟨k1, fresh e hx.new, k2, k3⟩ k4
end
section
variable {g : GI} {f : Fm} {n m : Nat} {ρ : En}
theorem room_in1 {A : Around} (h : Room A n) (hm : m < n) : Room A.in1 m := by
  have h1 := h.1; have h2 := h.2
  refine ⟨?_, ?_⟩
  · show A.depth + 3 * m < _; omega
  · show A.units + 1 + 8 * m < _; omega
theorem call_in1 {fv : Value} {σ : Sp} {ds : List V} {r : Res} {vs : List Value} {s : Shared} {Q : Value → Shared → Prop} {E : Value → Shared → Prop} (ok : FmOk g f n) (hm : m < n) (S : St g f σ ρ s.heap) (hr : RepL g.C s.heap (XOf f σ ρ) ds vs)
    (hf : Fn g m fv ds r)
    (q : ∀ v d h' tk, r = .ok d → Kf f.fs s.heap h' → Rep g.C h' (XOf f σ ρ) d v → Q v { s with heap := h', toks := tk })
    (ex : ∀ c e' h' tk, r = .exc c → Fly f s.heap h' e' c → E (.ref e') { s with heap := h', toks := tk }) :
    wpAny (model g.prog g.w) f.A.in1 (call fv vs) Q E s := by
  refine wpAny_call ?_
  exact hf f.A.in1 f.stack (XOf f σ ρ) vs s _ ok.G ok.fr ok.hd (room_in1 ok.room hm) (S.call ok) (fun b hb => S.fsX b (ok.sub b hb)) (fun b hb => S.Xex hb) (fun b hb => S.X0 ok hb) hr (fun v d h' tk e k rep => q v d h' tk e (k.mono ok.sub) rep) fun c e a0 h' tk er k fl => ex c e h' tk er (fly_of ok k fl)
theorem Bi.lenName {fa : Addr} {ls : List (List UInt8)} {k : Nat} (hm : m < n) (hs : findIn g.K (.ref g.C) "__len__" = some (some (.ref fa))) (hf : isFn g.K (.ref fa) = true) (hF : Fn g m (.ref fa) [.name ls] (.ok (.int k))) (hk : k < 2 ^ 63) :
    Bi g n (.builtin "len") [.name ls] (.ok (.int k)) := fun f ρ σ s Q E vs ok S hr q ex => by
  simp only [RepL] at hr
  obtain ⟨v, r, rfl, ra, rfl⟩ := hr
  obtain ⟨x, dx, t, h1, tk, nn, rfl, I, _⟩ := name_inst ra
  obtain ⟨H1, mm, hK, F⟩ := S.fr ok
  refine len_K F hK I hs hf ?_
  refine call_in1 ok hm S (by simp only [RepL]; exact ⟨_, _, rfl, ra, rfl⟩) hF (fun v d h' tk e kf rep => ?_) fun c e' h' tk ec => nomatch ec
  injection e with e; subst e
  simp only [Rep] at rep
  obtain ⟨tt, rfl⟩ := rep
  exact ⟨⟨by omega, by omega⟩, q _ _ h' _ rfl kf (by simp only [Rep]; exact ⟨_, rfl⟩)⟩
theorem Ev.subName {value slice : Expr} {pos : Pos} {fa : Addr} {ls : List (List UInt8)} {i : Int} {r : Res} (ok : FmOk g f n) (hm : m < n) (ho : Ev g f ρ value (.ok (.name ls))) (hi : Ev g f ρ slice (.ok (.int i)))
    (hs : findIn g.K (.ref g.C) "__getitem__" = some (some (.ref fa))) (hf : fnIn g.K fa = true) (hfn : isFn g.K (.ref fa) = true) (hF : Fn g m (.ref fa) [.name ls, .int i] r)
    (hsl : ∀ x i, subscripted slice true (.ref x) i = runValue (.builtin "lifetime.subscript" ⟨[.ref x, i], []⟩) := by intro _ _; with_unfolding_all rfl) : Ev g f ρ (.Subscript value slice pos) r := fun σ s Q E S q ex => by
  refine Subscript_ (ho σ s _ _ S (fun v d h₁ t₁ e k₁ r₁ => ?_) fun c e' h' tk ec => nomatch ec)
  injection e with e; subst e
  refine hi σ _ _ _ (S.mono ok k₁) (fun u d h₂ t₂ e k₂ r₂ => ?_) fun c e' h' tk ec => nomatch ec
  injection e with e; subst e
  have rv := rmono S r₁ k₂
  obtain ⟨x, dx, t, h1, tk, nn, rfl, I, _⟩ := name_inst rv
  have S₂ := S.mono ok (k₁.trans k₂)
  obtain ⟨H1, mm, hK, F⟩ := S₂.fr ok
  refine sub_K (s := { s with heap := h₂, toks := t₂ }) F hK I hs hf hfn ?_ (hsl x u)
  exact call_in1 (s := { s with heap := h₂, toks := t₂ }) ok hm S₂ (by simp only [RepL]; exact ⟨_, _, rfl, rv, _, _, rfl, r₂, rfl⟩) hF (fun v d h' tk e k r => q v d h' tk e ((k₁.trans k₂).trans k) r)
    fun c e' h' tk e fl => ex c e' h' tk e (fl.trans (k₁.trans k₂))
end
def KName (K : Frag) (C : Addr) (ls : List (List UInt8)) (v : Value) : Prop :=
  ∃ x dx hs tk t vs n m, v = .ref x ∧ K.lookup x = some (instObj C dx) ∧ K.lookup dx = some (dictOf [⟨hs, .str "labels" tk, .ref t⟩] m) ∧ K.lookup t = some (tobj vs n) ∧ vs.length ≤ sizeLine ∧
      (∀ b ∈ ls, b.length ≤ sizeLine) ∧ ∃ tks : List Tok, tks.length = ls.length ∧ vs = (ls.zip tks).map fun p => .bytes p.1.toArray p.2
theorem KName.rep {K : Frag} {C : Addr} {h H0 : Heap} {X : Addr → Prop} {ls : List (List UInt8)} {v : Value} (hK : K.In H0) (hk : ∀ b o, H0.get? b = some o → h.get? b = some o) (hX : ∀ b, X b → H0.get? b = none) (r : KName K C ls v) : Rep C h X (.name ls) v := by
  obtain ⟨x, dx, hs, tk, t, vs, n, m, e1, e2, e3, e4, e5, e6⟩ := r
  have at_ : ∀ {a : Addr} {o : Obj}, K.lookup a = some o → AtX h X a o := fun {a o} e => by
    have e5 := hK _ _ e
    exact ⟨hk _ _ e5, fun mm => by rw [hX _ mm] at e5; cases e5⟩
  simp only [Rep]
  exact ⟨x, dx, hs, tk, t, vs, n, m, e1, at_ e2, at_ e3, at_ e4, e5, e6⟩
theorem Ev.globName {g : GI} {f : Fm} {n : Nat} {ρ : En} {x : Str} {pos : Pos} {ls : List (List UInt8)} {v : Value} (ok : FmOk g f n) (hx : f.env.kindOf x = some .globalImplicit) (gv : GV g x v) (hr : KName g.K g.C ls v) : Ev g f ρ (.Name x pos) (.ok (.name ls)) := fun σ s Q E S q _ =>
  gv f n pos s _ _ ok hx S.cs (q v (.name ls) s.heap s.toks rfl (Kf.refl _ _) (hr.rep ok.G.X S.cs.keep fun b hb => S.X0 ok hb))
def badIds : List String := Builtin.Bytes.decodersThatHold ++ ["bytearray.__contains__", "bytearray.__mod__", "bytearray.__rmod__", "_struct.pack_into.held", "bytearray.find.held"]
def okC : Code → Prop
  | .builtin id _ => id ∉ badIds
  | _ => True
def cleanL (l : List (Code × Pos)) : Prop := ∀ cp ∈ l, okC cp.1
theorem cleanL.cons {c : Code} {p : Pos} {l : List (Code × Pos)} (h : okC c) (hl : cleanL l) : cleanL ((c, p) :: l) := fun cp m => by
  rcases List.mem_cons.mp m with rfl | m
  · exact h
  · exact hl cp m
def wpP {α : Type} (M : Model) (A : Around) (t : Sem α) (Q : α → Shared → Prop) (E : Value → Shared → Prop) (s : Shared) : Prop :=
  ∀ Γ p, Γ.In A → okC Γ.code → cleanL Γ.below → wp M Γ t (fun a _ s' => Q a s') (fun e _ s' => E e s') p s
def codeP (M : Model) (A : Around) (c : Code) (R : Result → Shared → Prop) (s : Shared) : Prop :=
  ∀ Γ p, Γ.code = c → Γ.Below A → cleanL Γ.below → wpCode M Γ R p s
section
variable {α β : Type} {M : Model} {A : Around} {E : Value → Shared → Prop} {s : Shared}
theorem wpP_of {t : Sem α} {Q : α → Shared → Prop} (h : wpAny M A t Q E s) : wpP M A t Q E s := fun Γ p hΓ _ _ => h Γ p hΓ
theorem codeP_of {c : Code} {R : Result → Shared → Prop} (h : codeAny M A c R s) : codeP M A c R s := fun Γ p hc hΓ _ => h Γ p hc hΓ
theorem wpP_mono {t : Sem α} {Q Q' : α → Shared → Prop} {E' : Value → Shared → Prop} (h : wpP M A t Q E s) (hQ : ∀ a s, Q a s → Q' a s) (hE : ∀ e s, E e s → E' e s) : wpP M A t Q' E' s :=
  fun Γ p hΓ h1 h2 => Sem.wp_mono M Γ t (fun a _ s => hQ a s) (fun e _ s => hE e s) p s (h Γ p hΓ h1 h2)
theorem wpP_bind {m : Sem α} {k : α → Sem β} {Q : β → Shared → Prop} (h : wpP M A m (fun a s' => wpP M A (k a) Q E s') E s) : wpP M A (m >>= k) Q E s := fun Γ p hΓ h1 h2 => by
  rw [Sem.wp_bind']
  exact Sem.wp_mono M Γ m (fun a p' s' h' => h' Γ p' hΓ h1 h2) (fun _ _ _ h' => h') p s (h Γ p hΓ h1 h2)
theorem wpP_then {m : Sem α} {k : α → Sem β} {Q : β → Shared → Prop} (h : wpAny M A m (fun a s' => wpP M A (k a) Q E s') E s) : wpP M A (m >>= k) Q E s := wpP_bind (wpP_of h)
theorem wpP_onRaise {m : Sem α} {k : Value → Sem Unit} {Q : α → Shared → Prop} (h : wpP M A m Q (fun e s' => wpAny M A (k e) (fun _ s'' => E e s'') E s') s) : wpP M A (m.onRaise k) Q E s := fun Γ p hΓ h1 h2 => by
  rw [Sem.wp_onRaise]
  exact Sem.wp_mono M Γ m (fun _ _ _ h' => h') (fun e p' s' h' => h' Γ p' hΓ) p s (h Γ p hΓ h1 h2)
theorem wpP_attempt {m : Sem α} {Q : Except Value α → Shared → Prop} (h : wpP M A m (fun a => Q (.ok a)) (fun e => Q (.error e)) s) : wpP M A m.attempt Q E s := fun Γ p hΓ h1 h2 => by rw [Sem.wp_attempt]; exact h Γ p hΓ h1 h2
theorem wpP_holding {vs : List Value} {m : Sem α} {Q : α → Shared → Prop} (h : wpP M A m Q E s) : wpP M A (holding vs m) Q E s := fun Γ p hΓ h1 h2 => by rw [Sem.wp_holding]; exact h Γ p hΓ h1 h2
theorem wpP_keep {vs : List Value} {m : Sem α} {Q : α → Shared → Prop} (h : wpP M A m Q E s) : wpP M A (m.keep vs) Q E s := fun Γ p hΓ h1 h2 => by rw [Sem.wp_keep]; exact h Γ p hΓ h1 h2
theorem codeP_mono {c : Code} {R R' : Result → Shared → Prop} (h : codeP M A c R s) (hR : ∀ r s, R r s → R' r s) : codeP M A c R' s := fun Γ p hc hΓ h2 => wpCode_mono hR (h Γ p hc hΓ h2)
theorem wpP_run {c : Code} {h : Option Value} {Q : Flow → Shared → Prop} (hc : codeP M (A.mark h) c (fun r s' => match r with | .ok f => Q f s' | .error e => E e s') s) (hnb : h ≠ some byPass := by intro x; cases x) : wpP M A (run c h) Q E s :=
  fun Γ p hΓ h1 h2 => by rw [Sem.wp_run]; exact hc _ p rfl (hΓ.enter c h p hnb) (h2.cons h1)
theorem wpP_runValue {c : Code} {Q : Value → Shared → Prop} (hc : codeP M A c (fun r s' => match r with | .ok (.ret v) => Q v s' | .ok _ => False | .error e => E e s') s) : wpP M A (runValue c) Q E s :=
  fun Γ p hΓ h1 h2 => by rw [Sem.wp_runValue]; exact hc _ p rfl (hΓ.enter c none p (by intro x; cases x)) (h2.cons h1)
theorem wpP_call {f : Value} {pos : List Value} {kw : List (Str × Value)} {Q : Value → Shared → Prop} (hc : codeP M A (.call f ⟨pos, kw⟩) (fun r s' => match r with | .ok (.ret v) => Q v s' | .ok _ => False | .error e => E e s') s) : wpP M A (call f pos kw) Q E s := wpP_runValue hc
theorem codeP_of_tree {c : Code} {R : Result → Shared → Prop} (hk : okC c)
    (h : wpP M (A.under c) (M.den c) (fun fin s' => match fin with | .done f => R (.ok f) s' | .again c' => c'.quiet = true ∧ codeP M A c' R s') (fun e s' => R (.error e) s') s) : codeP M A c R s := fun Γ p hc hΓ h2 => by
  rw [wpCode_iff_wp, hc]
  refine Sem.wp_mono M Γ _ (fun fin p' s' h' => ?_) (fun _ _ _ h' => h') p s (h Γ p (hc ▸ hΓ.in) (hc ▸ hk) h2)
  cases fin with
  | done f => exact h'
  | again c' => exact ⟨h'.1, h'.2 (Γ.goto c') p' rfl (hΓ.goto c') h2⟩
theorem codeP_loop {c : Code} {R : Result → Shared → Prop} (hk : okC c) (hq : c.quiet = true) (I : Nat → Shared → Prop)
    (turn : ∀ n s, I n s → wpP M (A.under c) (M.den c)
      (fun fin s' => match fin with
        | .done f => R (.ok f) s'
        | .again c' => (c' = c ∧ ∃ m, m < n ∧ I m s') ∨ (c'.quiet = true ∧ codeP M A c' R s')) (fun e s' => R (.error e) s') s)
    (n : Nat) (h : I n s) : codeP M A c R s := by
  induction n using Nat.strongRecOn generalizing s with
  | ind n ih =>
    refine codeP_of_tree hk (wpP_mono (turn n s h) (fun fin s' hf => ?_) fun _ _ h' => h')
    cases fin with
    | done f => exact hf
    | again c' =>
      rcases hf with ⟨rfl, m, hm, hI⟩ | hf
      · exact ⟨hq, ih m hm hI⟩
      · exact hf
end
section
variable {M : Model} {A : Around} {E : Value → Shared → Prop} {s : Shared} {env : Env}
theorem wpP_execs_cons {st : Stmt} {rest : List Stmt} {Q : Flow → Shared → Prop} (h : wpP M A (exec st env) (fun f s' => match f with | .next => wpP M A (execs rest env) Q E s' | f => Q f s') E s) : wpP M A (execs (st :: rest) env) Q E s := by
  rw [execs_cons]
  refine wpP_bind (wpP_mono h (fun f s' h' => ?_) fun _ _ h' => h')
  cases f <;> first | exact h' | exact wpP_of (wpAny_pure h')
theorem execP_of_execs {st : Stmt} {Q : Flow → Shared → Prop} (h : wpP M A (execs [st] env) Q E s) : wpP M A (exec st env) Q E s := fun Γ p hΓ h1 h2 => by
  have := h Γ p hΓ h1 h2
  rw [execs_cons, Sem.wp_bind'] at this
  exact Sem.wp_mono M Γ _ (fun fl p' s' h' => by cases fl <;> exact h') (fun _ _ _ h' => h') p s this
theorem wpP_Assign_Name {x : Str} {pos' pos : Pos} {value : Expr} {Q : Flow → Shared → Prop} (h : wpP M A (eval value env) (fun v s₁ => wpAny M A (storeName env x v) (fun _ => Q .next) E s₁) E s)
    (hs : swapsWith value (some (.Name x pos')) pos.line env = pure false := by rfl) : wpP M A (exec (.Assign [.Name x pos'] value pos) env) Q E s := by
  rw [exec_Assign_Name env x pos' value pos hs]
  refine wpP_then (wpAny_standAt (wpP_bind (wpP_mono h (fun v s₁ h₁ => ?_) fun _ _ h' => h')))
  exact wpP_of (wpAny_bind (wpAny_standAt (wpAny_bind (wpAny_bindName (wpAny_mono h₁ (fun _ _ q => wpAny_pure q) fun _ _ e => e)))))
theorem wpP_If {test : Expr} {body orelse : List Stmt} {pos : Pos} {Q : Flow → Shared → Prop} (h : wpP M A (isTrue test env (eval test env)) (fun b s₂ => if b then wpP M A (execs body env) Q E s₂ else wpP M A (execs orelse env) Q E s₂) E s) :
    wpP M A (exec (.If test body orelse pos) env) Q E s := by
  rw [exec_If]
  refine wpP_then (wpAny_standAt (wpP_bind (wpP_mono h (fun b s₂ h₂ => ?_) fun _ _ h' => h')))
  cases b <;> exact h₂
theorem wpP_Return_some {e : Expr} {pos : Pos} {Q : Flow → Shared → Prop} (h : wpP M A (eval e env) (fun v => Q (.ret v)) E s) : wpP M A (exec (.Return (some e) pos) env) Q E s := by
  rw [exec_Return_some]
  exact wpP_then (wpAny_standAt (wpP_bind (wpP_mono h (fun v s' h' => wpP_of (wpAny_pure h')) fun _ _ h' => h')))
theorem wpP_runOwn {c : Code} {h : Option Value} {Q : Flow → Shared → Prop} (hc : codeP M (A.mark h) c (fun r s' => match r with | .ok f => Q f s' | .error e => cameBackBy M A env E e s') s) (hnb : h ≠ some byPass := by intro x; cases x) : wpP M A (runOwn c env h) Q E s := by
  unfold runOwn
  exact wpP_onRaise (wpP_run hc hnb)
theorem wpP_While {test : Expr} {body orelse : List Stmt} {pos : Pos} {Q : Flow → Shared → Prop} (h : codeP M A (.whileLoop test body orelse env) (fun r s' => match r with | .ok f => Q f s' | .error e => cameBackBy M A env E e s') s) :
    wpP M A (exec (.While test body orelse pos) env) Q E s := by
  rw [exec_While]; exact wpP_then (wpAny_standAt (wpP_runOwn h))
theorem wpP_noted {α : Type} {m : Sem α} {Q : α → Shared → Prop} (h : wpP M A m Q (notedBy M A env E) s) : wpP M A (m.onRaise fun x => do noteFrame x env; theTreesLotGoes x) Q E s :=
  wpP_onRaise (wpP_mono h (fun _ _ q => q) fun _ _ hx => wpAny_bind (wpAny_mono hx (fun _ _ e => wpAny_theTreesLotGoes e) fun _ _ e => e))
theorem wpP_For {target iter : Expr} {body orelse : List Stmt} {pos : Pos} {Q : Flow → Shared → Prop}
    (h : wpAny M A (eval iter env) (fun x s₁ => wpAny M A (pyIter x) (fun it s₂ => codeP M A (.forLoop target it body orelse env) (fun r s' => match r with | .ok f => Q f s' | .error e => cameBackBy M A env E e s') s₂) E s₁) E s)
    (hs : ∀ x, foldedSetIterable iter env x = pure x := by intro _; rfl) : wpP M A (exec (.For target iter body orelse pos) env) Q E s := by
  rw [exec_For]
  exact wpP_then (wpAny_standAt (wpP_then (wpAny_mono h (fun x s₁ h₁ => wpP_then (wpAny_of_eq (hs x) (wpP_then (wpAny_standAt (wpP_then (wpAny_holding (wpAny_mono h₁ (fun it s₂ h₂ => wpP_runOwn h₂) fun _ _ h' => h'))))))) fun _ _ h' => h')))
end
section
variable {prog : Program} {w : World} {A : Around} {E : Value → Shared → Prop} {R : Result → Shared → Prop} {s : Shared} {env : Env}
theorem codeP_whileLoop {test : Expr} {body orelse : List Stmt} (I : Nat → Shared → Prop)
    (turn : ∀ n s, I n s →
      wpP (model prog w) A (isTrue test env (eval test env)) (fun b s₂ =>
        if b then wpP (model prog w) A (execs body env) (fun f s₃ => match f with
            | .next | .cont => ∃ m, m < n ∧ I m s₃
            | .brk => R (.ok .next) s₃
            | .ret v => R (.ok (.ret v)) s₃) (notedBy (model prog w) A env fun e s' => R (.error e) s') s₂
        else wpP (model prog w) A (execs orelse env) (fun f s₃ => R (.ok f) s₃) (notedBy (model prog w) A env fun e s' => R (.error e) s') s₂)
        (notedBy (model prog w) A env fun e s' => R (.error e) s') s)
    (n : Nat) (h : I n s) : codeP (model prog w) A (.whileLoop test body orelse env) R s := by
  refine codeP_loop trivial rfl I (fun n s hI => ?_) n h
  show wpP _ A ((whileTurn test body orelse env).onRaise (fun x => do noteFrame x env; theTreesLotGoes x)) _ _ s
  refine wpP_noted ?_
  simp only [whileTurn]
  refine wpP_bind (wpP_mono (turn n s hI) (fun b s₂ h₂ => ?_) fun _ _ h' => h')
  cases b with
  | false =>
    simp only [Bool.false_eq_true, if_false] at h₂ ⊢
    exact wpP_bind (wpP_mono h₂ (fun f s₃ h₃ => wpP_of (wpAny_pure h₃)) fun _ _ h' => h')
  | true =>
    simp only [if_true] at h₂ ⊢
    refine wpP_bind (wpP_mono h₂ (fun f s₃ h₃ => wpP_of ?_) fun _ _ h' => h')
    cases f with
    | next => exact wpAny_pure (.inl ⟨rfl, h₃⟩)
    | cont => exact wpAny_pure (.inl ⟨rfl, h₃⟩)
    | brk => exact wpAny_pure h₃
    | ret v => exact wpAny_pure h₃
theorem codeP_forLoop {target : Expr} {it : Value} {body orelse : List Stmt} (I : Nat → Shared → Prop)
    (turn : ∀ n s, I n s → wpAny (model prog w) A (pyNext it) (fun r s₁ => match r with
      | none => wpAny (model prog w) A (execs orelse env) (fun f s₃ => R (.ok f) s₃) (notedBy (model prog w) A env fun e s' => R (.error e) s') s₁
      | some v => wpAny (model prog w) A (assign target env v) (fun _ s₂ => wpP (model prog w) A (execs body env) (fun f s₃ => match f with
          | .next | .cont => ∃ m, m < n ∧ I m s₃
          | .brk => R (.ok .next) s₃
          | .ret v => R (.ok (.ret v)) s₃) (notedBy (model prog w) A env fun e s' => R (.error e) s') s₂) (notedBy (model prog w) A env fun e s' => R (.error e) s') s₁) (notedBy (model prog w) A env fun e s' => R (.error e) s') s)
    (n : Nat) (h : I n s) (ht : ∀ v, letOwnedTupleGo target it v = pure () := by intro _; rfl) : codeP (model prog w) A (.forLoop target it body orelse env) R s := by
  refine codeP_loop trivial rfl I (fun n s hI => ?_) n h
  show wpP _ _ ((forTurn target it body orelse env).onRaise (fun x => do noteFrame x env; theTreesLotGoes x)) _ _ s
  refine wpP_noted ?_
  simp only [forTurn]
  refine wpP_then (wpAny_standAt (wpP_then (wpAny_onRaise (wpAny_mono (turn n s hI) (fun r s₁ h₁ => ?_) fun _ _ h' => wpAny_standAt h'))))
  cases r with
  | none => exact wpP_of (wpAny_pure (.inr ⟨rfl, codeP_of (codeAny_block h₁)⟩))
  | some v =>
    refine wpP_then (wpAny_of_eq (ht v) ?_)
    refine wpP_then (wpAny_mono h₁ (fun _ s₂ h₂ => wpP_bind (wpP_mono h₂ (fun f s₃ h₃ => wpP_of ?_) fun _ _ h' => h')) fun _ _ h' => h')
    cases f with
    | next => exact wpAny_pure (.inl ⟨rfl, h₃⟩)
    | cont => exact wpAny_pure (.inl ⟨rfl, h₃⟩)
    | brk => exact wpAny_pure h₃
    | ret v => exact wpAny_pure h₃
theorem codeP_func {body : List Stmt}
    (h : wpP (model prog w) (A.deeper env) (execs body env) (fun f s' => R (.ok (.ret (match f with | .ret v => v | _ => .none))) s')
      (fun e s' => wpAny (model prog w) (A.deeper env) (leaving env e) (fun _ s'' => R (.error e) s'') (fun e' s'' => R (.error e') s'') s') s) : codeP (model prog w) A (.func body env) R s := by
  refine codeP_of_tree trivial ?_
  show wpP _ (A.deeper env) (do point; match ← (execs body env).onRaise (leaving env) with | .ret v => ret v | _ => ret .none) _ _ s
  refine wpP_then (wpAny_point (wpP_bind ?_))
  refine wpP_mono (Q := fun f s' => R (.ok (.ret (match f with | .ret v => v | _ => .none))) s') (E := fun e s' => R (.error e) s') ?_ (fun f s' h' => ?_) fun _ _ e => e
  · intro Γ p hΓ h1 h2
    rw [Sem.wp_onRaise]
    exact Sem.wp_mono _ Γ _ (fun _ _ _ h' => h') (fun e p' s' h' => h' Γ p' hΓ) p s (h Γ p hΓ h1 h2)
  · cases f <;> exact wpP_of (wpAny_pure h')
theorem codeP_call_def {a : Addr} {o : Obj} {fd : FuncData} {body : List Stmt} {args : Args} {binds : List (Str × Value)}
    (hroom : A.depth < recursionLimit) (ho : s.heap.get? a = some o) (hdata : o.data = .func fd) (hlim : s.heap.NoLimit) (hcd : s.heap.CodeRec fd.code fd.qualname)
    (hbody : fd.body = .stmts body) (hbind : BindsTo s fd args binds)
    (hcell : ∀ x ∈ fd.scope.names, x.2 ≠ .cell) (hloc : ∀ x ∈ binds, fd.scope.names.lookup x.1 = some .local)
    (h : ∀ h₀, h₀.Ns s.heap.objs.size (fun x => binds.reverse.lookup x) → (∀ b o, s.heap.get? b = some o → h₀.get? b = some o) →
      wpP (model prog w) (A.deeper (callEnv fd s.heap.objs.size a)) (execs body (callEnv fd s.heap.objs.size a)) (fun f s' => R (.ok (.ret (match f with | .ret v => v | _ => .none))) s')
        (fun e s' => wpAny (model prog w) (A.deeper (callEnv fd s.heap.objs.size a)) (leaving (callEnv fd s.heap.objs.size a) e) (fun _ s'' => R (.error e) s'') (fun e' s'' => R (.error e') s'') s')
        { s with heap := h₀, toks := s.toks + binds.length })
    (hco : fd.scope.isCoroutine = false := by rfl) (hgen : fd.scope.isGenerator = false := by rfl) (hk : fd.scope.kind = .function := by rfl) :
    codeP (model prog w) A (.call (.ref a) args) R s := by
  refine codeP_of_tree trivial ?_
  show wpP _ A.in1 (callAny (.ref a) args) _ _ s
  simp only [callAny]
  refine wpP_then (wpAny_load ho ?_)
  obtain ⟨c, oc, vs, tq, hc, hoc, hdc, hq⟩ := hcd
  have hb := hbind (model prog w) A.in1 (fun e s' => R (.error e) s')
  simp only [hdata, callFunction, hco, hgen, hbody, hc]
  refine wpP_then (m := field (.ref c) 1) (wpAny_field hoc hdc hq (wpP_then (wpAny_pure ?_)))
  refine wpP_then (hb _ (wpP_then ?_))
  have := wpAny_newFunctionEnv (M := model prog w) (A := A.in1) (E := fun e s' => R (.error e) s') (Q := fun env s₂ => s₂.heap.NoLimit ∧ codeP (model prog w) A (.func body env) R s₂) (globals := fd.globals) (closure := fd.closure) (qual := fd.qualname ++ ".<locals>.") (func := some a) (code := fd.code) (around := none) (builtins := fd.builtins) hcell hloc (fun h₀ hns₀ hsb₀ => ⟨hlim.fresh _ hsb₀, codeP_func (h h₀ hns₀ fun b o e => hsb₀.extBut b o (Nat.ne_of_lt (Heap.lt_size e)) (Heap.get?_push_of_some _ e))⟩) hk
  rw [hc] at this
  exact wpAny_mono this (fun env s₂ h₂ => wpP_then (wpAny_enterFrame h₂.1 hroom (wpP_of (wpAny_pure ⟨rfl, h₂.2⟩)))) fun _ _ e => e
end
theorem ba_mro : mroOf (.type "bytearray") = pure [.type "bytearray", .type "object"] := by rw [mroOf_type]; kernel_rfl
theorem ba_lnew : typeLookup (.type "bytearray") "__new__" = pure (some (.builtin "bytearray.__new__")) := by rw [typeLookup_type, builtinLookup_eq_fast]; kernel_rfl
theorem ba_slot_init : Slot "bytearray" "__init__" "bytearray.__init__" :=
  .of (owner := "bytearray") (n := "__init__") (by rw [typeLookup_type, builtinLookup_eq_fast]; kernel_rfl) (by decide +kernel) (by decide +kernel) (by decide +kernel)
    (by first | exact .inl (by decide +kernel) | exact .inr (by decide +kernel)) (by rw [isSubtype_type]; kernel_rfl)
theorem ba_called : TypeCalled "bytearray" "bytearray.__new__" "bytearray.__init__" :=
  ⟨by decide +kernel, by decide +kernel, ⟨_, _, ba_mro⟩, madeBy_type ba_mro ba_lnew (by decide +kernel), by decide +kernel, by rw [isSubtype_type]; kernel_rfl, ba_slot_init⟩
theorem ba_typeCall (a : Value) : checkTypeCall "bytearray" ⟨[a], []⟩ = pure () := by kernel_rfl
theorem ba_newCall (a : Value) : checkBuiltinCall "bytearray.__new__" ⟨[.type "bytearray", a], []⟩ = pure () := by kernel_rfl
theorem ba_plain : plainId "bytearray.__new__" = true := by decide +kernel
theorem ba_entry : entryFor table "bytearray.__new__" = some Builtin.«list.__new__» := entryFor_alias (id' := "list.__new__") (by rw [fastTable_eq_tree]; kernel_rfl) (by first | rfl | decide +kernel) (by decide +kernel) (by rw [fastTable_eq_tree]; kernel_rfl)
theorem ba_entryI : entryFor table "bytearray.__init__" = some Builtin.«bytearray.__init__» := by first | exact entryFor_of_fast (by kernel_rfl) | exact entryFor_of_tree (by kernel_rfl)
theorem ba_owner : ("bytearray.__new__".splitOn ".__new__").headD "" = "bytearray" := by simp +decide [String.splitOn, String.splitOnAux]
theorem ba_sub : isSubtype (.type "bytearray") (.type "bytearray") = pure true := by rw [isSubtype_type]; kernel_rfl
theorem ba_bind (v : Value) : Builtin.Bytes.bindOptional "bytearray.__init__" "bytearray" ["source", "encoding", "errors"] [v] [] = pure [some v, none, none] := by kernel_rfl
theorem ba_release : typeLookup (.type "bytearray") "__release_buffer__" = pure (some (.builtin "bytearray.__release_buffer__")) := by rw [typeLookup_type, builtinLookup_eq_fast]; kernel_rfl
theorem ba_no_index : typeLookup (.type "bytes") "__index__" = pure none := by rw [typeLookup_type, builtinLookup_eq_fast]; kernel_rfl
theorem ba_args (o v : Value) : argsOk "bytearray.__init__" ⟨[o, v], []⟩ := by first | rfl | kernel_rfl
section
variable {M : Model} {A : Around} {E : Value → Shared → Prop} {s : Shared}
theorem any_clean {f : Code × Pos → Bool} (hf : ∀ c p, okC c → f (c, p) = false) : ∀ {l : List (Code × Pos)}, cleanL l → l.any f = false
  | [], _ => rfl
  | (c, p) :: l, h => by
    rw [List.any_cons, hf c p (h _ (.head _)), any_clean hf fun cp m => h cp (.tail _ m)]; rfl
theorem wpP_exported {v : Value} {Q : Bool → Shared → Prop} (h : Q false s) : wpP M A (Builtin.Bytes.exported v) Q E s := fun Γ p hΓ h1 h2 => by
  unfold Builtin.Bytes.exported
  show Q (List.any _ _) s
  rw [any_clean (fun c q hc => ?_) (h2.cons h1)]
  · exact h
  · cases c with
    | builtin id args =>
      have hc : id ∉ badIds := hc
      have n1 : id ≠ "bytearray.__contains__" := fun e => hc (e ▸ by decide)
      have n2 : id ≠ "bytearray.__mod__" := fun e => hc (e ▸ by decide)
      have n3 : id ≠ "bytearray.__rmod__" := fun e => hc (e ▸ by decide)
      have n4 : id ≠ "_struct.pack_into.held" := fun e => hc (e ▸ by decide)
      have n5 : id ≠ "bytearray.find.held" := fun e => hc (e ▸ by decide)
      have n6 : Builtin.Bytes.decodersThatHold.contains id = false := by
        cases z : Builtin.Bytes.decodersThatHold.contains id with
        | false => rfl
        | true => exact (hc (List.mem_append_left _ (List.contains_iff_mem.mp z))).elim
      obtain ⟨pos, kw⟩ := args
      cases pos with
      | nil =>
        delta Builtin.Bytes.exported.match_1 Builtin.Bytes.exported._sparseCasesOn_1
        refine (dif_neg n1).trans ?_; refine (dif_neg n2).trans ?_; refine (dif_neg n3).trans ?_; refine (dif_neg n4).trans ?_; refine (dif_neg n5).trans ?_
        rfl
      | cons v r =>
        delta Builtin.Bytes.exported.match_1 Builtin.Bytes.exported._sparseCasesOn_1
        refine (dif_neg n1).trans ?_; refine (dif_neg n2).trans ?_; refine (dif_neg n3).trans ?_; refine (dif_neg n4).trans ?_; refine (dif_neg n5).trans ?_
        exact (congrArg (fun b => _ && b) n6).trans (Bool.and_false _)
    | _ => rfl
end
section
variable {prog : Program} {w : World} {A : Around} {E : Value → Shared → Prop} {s : Shared}
theorem code_ba_new (a : Value) {Q₁ : Value → Shared → Prop}
    (h : Q₁ (.ref s.heap.objs.size) { s with heap := s.heap.push { cls := .type "bytearray", data := .bytearray #[] } }) :
    codeAny (model prog w) A (.call (.builtin "bytearray.__new__") ⟨[.type "bytearray", a], []⟩) (wants Q₁ E) s := by
  refine codeAny_of_tree ?_
  show wpAny _ A.in1 (do checkBuiltinCall "bytearray.__new__" ⟨[.type "bytearray", a], []⟩; again (.builtin "bytearray.__new__" ⟨[.type "bytearray", a], []⟩)) _ _ s
  refine wpAny_bind (wpAny_of_eq (ba_newCall a) (wpAny_pure ⟨plainId_quiet ba_plain _, codeAny_builtin_stack ba_entry rfl fun p st => ?_⟩))
  rw [Around.under_plainId ba_plain _]
  have hsub := ba_sub
  have hown := ba_owner
  obtain ⟨hp, g, d, tk, os⟩ := s
  simp only [hown]
  wp_walk
  exact h
theorem own_release_ba {a : Addr} {o : Obj} {Q : Bool → Shared → Prop} (ho : s.heap.get? a = some o) (hc : o.cls = .type "bytearray") (h : Q false s) : wpAny (model prog w) A (Builtin.Bytes.ownRelease (.ref a)) Q E s := by
  have hT : s.TypeIs (.ref a) "bytearray" := ⟨o, ho, hc⟩
  unfold Builtin.Bytes.ownRelease Builtin.Bytes.slotIsOwn
  refine wpAny_bind (wpAny_bind (wpAny_specialOf hT ba_release ?_))
  dsimp only
  rw [if_neg (by decide +kernel)]
  rw [show (("bytearray.__release_buffer__" : String).dropRight ("__release_buffer__".length + 1)) = "bytearray" from by decide +kernel]
  exact wpAny_isInstance hT ba_sub (wpAny_pure h)
end
section
variable {prog : Program} {w : World} {A : Around} {E : Value → Shared → Prop} {s : Shared}
theorem specialP_slot {self : Value} {T : String} {name : Str} {id : String} {args : List Value} {kw : List (Str × Value)}
    {Q : Option Value → Shared → Prop} (hT : s.TypeIs self T) (h : Slot T name id)
    (hc : wpP (model prog w) A (call (.builtin id) (self :: args) kw) (fun v => Q (some v)) E s) : wpP (model prog w) A (callSpecial? self name args kw) Q E s := by
  simp only [callSpecial?]
  refine wpP_then (wpAny_specialOf hT h.lookup ?_)
  simp only [h.bind]
  exact wpP_holding (wpP_then (wpAny_pure (wpP_bind (wpP_mono hc (fun v s' h' => wpP_of (wpAny_pure h')) fun _ _ h' => h'))))
theorem codeP_call_builtin {R : Result → Shared → Prop} {id : String} {args : Args} {b : Builtin} (hq : plainId id = true) (hk : id ∉ badIds) (hb : entryFor table id = some b)
    (h : wpAny (model prog w) A.in1 (checkBuiltinCall id args) (fun _ s₁ => wpP (model prog w) A.in1 (b args)
      (fun fin s' => match fin with | .done f => R (.ok f) s' | .again c' => c'.quiet = true ∧ codeP (model prog w) A c' R s') (fun e s' => R (.error e) s') s₁)
      (fun e s' => R (.error e) s') s) : codeP (model prog w) A (.call (.builtin id) args) R s := by
  refine codeP_of_tree trivial ?_
  show wpP _ A.in1 (do checkBuiltinCall id args; again (.builtin id args)) _ _ s
  refine wpP_then (wpAny_mono h (fun _ s₁ h₁ => wpP_of (wpAny_pure (And.intro (plainId_quiet hq args) (codeP_of_tree (c := .builtin id args) hk ?_)))) fun _ _ h' => h')
  show wpP _ _ (match entryFor table id with | some b => b args | none => unsupported ((withoutEnding? id "#data").getD id)) _ _ s₁
  rw [hb, Around.under_plainId hq args]; exact h₁
theorem codeP_builtin {R : Result → Shared → Prop} {id : String} {args : Args} {b : Builtin} (hk : id ∉ badIds) (hb : entryFor table id = some b)
    (h : wpP (model prog w) (A.under (.builtin id args)) (b args)
      (fun fin s' => match fin with | .done f => R (.ok f) s' | .again c' => c'.quiet = true ∧ codeP (model prog w) A c' R s') (fun e s' => R (.error e) s') s) : codeP (model prog w) A (.builtin id args) R s := by
  refine codeP_of_tree (c := .builtin id args) hk ?_
  show wpP _ _ (match entryFor table id with | some b => b args | none => unsupported ((withoutEnding? id "#data").getD id)) _ _ s
  rw [hb]; exact h
theorem callType_P {T newId initId : String} {Bi : Builtin} {args : List Value} {Q Q₁ : Value → Shared → Prop} (ft : TypeCalled T newId initId) (hk : initId ∉ badIds)
    (hct : checkTypeCall T ⟨args, []⟩ = pure ()) (entryI : entryFor table initId = some Bi)
    (hnew : codeAny (model prog w) A.in1 (.call (.builtin newId) ⟨.type T :: args, []⟩) (wants Q₁ E) s)
    (hnext : ∀ obj s₁, Q₁ obj s₁ → s₁.TypeIs obj T ∧ argsOk initId ⟨obj :: args, []⟩ ∧
      wpP (model prog w) A.in1.in1 (Bi ⟨obj :: args, []⟩)
        (fun fin s' => match fin with | .done f => wants (fun r s₂ => r = .none ∧ Q obj s₂) E (.ok f) s' | .again c' => c'.quiet = true ∧ codeP (model prog w) A.in1 c' (wants (fun r s₂ => r = .none ∧ Q obj s₂) E) s')
        (fun e s' => wants (fun r s₂ => r = .none ∧ Q obj s₂) E (.error e) s') s₁) :
    wpP (model prog w) A (call (.type T) args) Q E s := by
  obtain ⟨c, tl, hmro⟩ := ft.mro
  have hmade := ft.made
  have hsub := ft.sub
  refine wpP_call (codeP_of_tree trivial ?_)
  show wpP _ _ (callAny (.type T) _) _ _ _
  refine wpP_of (wpAny_pure ⟨Code.quiet_builtin _ (by decide +kernel), codeP_builtin (show "type.__call__" ∉ badIds by decide) F.entry_type_call ?_⟩)
  rw [Around.under_plain (weight_type_call_type T args []) rfl]
  have h1 := ft.notType
  have h2 := ft.canCreate
  unfold Builtin.«type.__call__»
  dsimp only
  rw [if_neg (by rw [h1]; exact Bool.false_ne_true)]
  rw [if_neg (by rw [h2]; exact Bool.false_ne_true)]
  refine wpP_then (wpAny_of_eq hct ?_)
  refine wpP_then (wpAny_of_eq hmro ?_)
  rw [if_neg (show ¬ ((c :: tl).isEmpty = true) from Bool.false_ne_true)]
  refine wpP_then (wpAny_of_eq hmade ?_)
  dsimp only
  refine wpP_then (wpAny_pure ?_)
  refine wpP_then (wpAny_holding (wpAny_call (codeAny_mono hnew fun r s₁ hr => ?_)))
  cases r with
  | error e => exact hr
  | ok fl =>
    cases fl with
    | ret obj =>
      obtain ⟨hT, hok, hsi⟩ := hnext _ _ hr
      refine wpP_then (wpAny_isInstance hT hsub ?_)
      rw [if_neg (show ¬ ((!true) = true) from Bool.false_ne_true)]
      refine wpP_bind (wpP_holding (specialP_slot hT ft.init (wpP_call (codeP_mono (codeP_call_builtin ft.init.plain hk entryI (ft.init.check _ _ _ _ _ _ _ _ hT hok hsi)) fun r₂ s₂ hr₂ => ?_))))
      cases r₂ with
      | error e => exact hr₂
      | ok fl₂ =>
        cases fl₂ with
        | ret r =>
          obtain ⟨rfl, hq⟩ := hr₂
          dsimp only
          rw [if_neg (by decide)]
          exact wpP_of (wpAny_pure hq)
        | _ => exact hr₂.elim
    | _ => exact hr.elim
end
section
variable {prog : Program} {w : World} {A : Around} {E : Value → Shared → Prop} {s : Shared}
abbrev baObj (b : Array UInt8) : Obj := { cls := .type "bytearray", data := .bytearray b 0 }
theorem upd_ba {a : Addr} {b : Array UInt8} {k : Array UInt8 → Array UInt8} {Q : Unit → Shared → Prop} (ho : s.heap.get? a = some (baObj b)) (hl : (k b).size ≤ sizeLine)
    (h : ∀ h', h'.get? a = some (baObj (k b)) → Heap.SameBut a s.heap h' → Q () { s with heap := h' }) : wpAny (model prog w) A (Builtin.Bytes.write (.ref a) k) Q E s := by
  show wpAny _ _ (updateBytearray a k) _ _ _
  unfold updateBytearray
  refine wpAny_bind (wpAny_load ho ?_)
  show wpAny _ _ (update a (Obj.mapBytearray k) >>= fun _ => lookBehind a) _ _ _
  refine wpAny_bind (wpAny_update ho ?_)
  have h2 : (s.heap.update a (Obj.mapBytearray k)).get? a = some (baObj (k b)) := Heap.get?_update_self (Obj.mapBytearray k) ho rfl
  refine wpAny_lookBehind h2 ?_ (h _ h2 (Heap.SameBut.update ..))
  show (if (k b).size > sizeLine then some "bytearray:memory" else none) = none
  rw [if_neg (by omega)]
theorem call_ba {b : Array UInt8} {t : Tok} {Q : Value → Shared → Prop} (hl : b.size ≤ sizeLine)
    (h : ∀ h', h'.get? s.heap.objs.size = some (baObj b) → (∀ c o, s.heap.get? c = some o → h'.get? c = some o) → Q (.ref s.heap.objs.size) { s with heap := h' }) : wpP (model prog w) A (call (.type "bytearray") [.bytes b t]) Q E s := by
  refine callType_P (Q₁ := fun obj s₁ => obj = .ref s.heap.objs.size ∧ s₁ = { s with heap := s.heap.push (baObj #[]) }) ba_called (show "bytearray.__init__" ∉ badIds by decide) (ba_typeCall _) ba_entryI (code_ba_new _ ⟨rfl, rfl⟩) ?_
  rintro obj s₁ ⟨rfl, rfl⟩
  have ho : (s.heap.push (baObj #[])).get? s.heap.objs.size = some (baObj #[]) := Heap.get?_push_size _ rfl
  refine ⟨⟨_, ho, rfl⟩, ba_args _ _, ?_⟩
  unfold Builtin.«bytearray.__init__»
  dsimp only
  refine wpP_then (own_release_ba (o := baObj #[]) ho rfl ?_)
  rw [if_neg Bool.false_ne_true]
  refine wpP_then (wpAny_of_eq (ba_bind _) ?_)
  dsimp only
  refine wpP_then (wpAny_of_eq (a := ()) rfl ?_)
  refine wpP_then (wpAny_of_eq (a := ()) rfl ?_)
  refine wpP_bind (wpP_bind (wpP_exported ?_))
  show wpP _ _ (do let l ← Builtin.Bytes.exportsOf (.ref s.heap.objs.size); pure (decide (l > 0))) _ _ _
  refine wpP_then ?_
  show wpAny _ _ (do match (← load s.heap.objs.size).data with | .bytearray _ n => pure n | _ => pure 0) _ _ _
  refine wpAny_bind (wpAny_load ho ?_)
  refine wpAny_pure (wpP_of (wpAny_pure ?_))
  rw [if_neg (by decide)]
  refine wpP_then (upd_ba ho (Nat.zero_le _) fun h₁ e₁ k₁ => wpP_of ?_)
  refine wpAny_bind (wpAny_of_eq (a := none) rfl ?_)
  rw [if_neg (show ¬ ((none : Option Str).isSome = true) from Bool.false_ne_true)]
  refine wpAny_bind (wpAny_of_eq (a := ()) rfl ?_)
  refine wpAny_bind (wpAny_of_eq (KBy.special_eq ba_no_index) ?_)
  rw [if_neg (show ¬ ((none : Option Value).isSome = true) from Bool.false_ne_true)]
  refine wpAny_bind (wpAny_of_eq KBy.buffer_eq ?_)
  dsimp only
  refine wpAny_bind (wpAny_rule ?_)
  refine wpAny_bind (upd_ba e₁ hl fun h₂ e₂ k₂ => ?_)
  refine wpAny_pure ?_
  refine ⟨rfl, h h₂ e₂ fun c o hc => ?_⟩
  have hne : c ≠ s.heap.objs.size := Nat.ne_of_lt (Heap.lt_size hc)
  exact (k₂.2 c hne).trans ((k₁.2 c hne).trans (Heap.get?_push_of_some _ hc))
end
theorem ba_slot_len : Slot "bytearray" "__len__" "bytearray.__len__" :=
  .of (owner := "bytearray") (n := "__len__") (by rw [typeLookup_type, builtinLookup_eq_fast]; kernel_rfl) (by decide +kernel) (by decide +kernel) (by decide +kernel)
    (by first | exact .inl (by decide +kernel) | exact .inr (by decide +kernel)) (by rw [isSubtype_type]; kernel_rfl)
theorem ba_slot_get : Slot "bytearray" "__getitem__" "bytearray.__getitem__" :=
  .of (owner := "bytearray") (n := "__getitem__") (by rw [typeLookup_type, builtinLookup_eq_fast]; kernel_rfl) (by decide +kernel) (by decide +kernel) (by decide +kernel)
    (by first | exact .inl (by decide +kernel) | exact .inr (by decide +kernel)) (by rw [isSubtype_type]; kernel_rfl)
theorem ba_slot_set : Slot "bytearray" "__setitem__" "bytearray.__setitem__" :=
  .of (owner := "bytearray") (n := "__setitem__") (by rw [typeLookup_type, builtinLookup_eq_fast]; kernel_rfl) (by decide +kernel) (by decide +kernel) (by decide +kernel)
    (by first | exact .inl (by decide +kernel) | exact .inr (by decide +kernel)) (by rw [isSubtype_type]; kernel_rfl)
theorem ba_entry_len : entryFor table "bytearray.__len__" = some Builtin.«bytearray.__len__» := entryFor_of_tree (by kernel_rfl)
theorem ba_entry_get : entryFor table "bytearray.__getitem__" = some Builtin.«bytearray.__getitem__» := entryFor_of_tree (by kernel_rfl)
theorem ba_entry_set : entryFor table "bytearray.__setitem__" = some Builtin.«bytearray.__setitem__» := entryFor_of_tree (by kernel_rfl)
theorem ba_args_len (o : Value) : argsOk "bytearray.__len__" ⟨[o], []⟩ := by first | rfl | kernel_rfl
theorem ba_args_get (o v : Value) : argsOk "bytearray.__getitem__" ⟨[o, v], []⟩ := by first | rfl | kernel_rfl
theorem ba_args_set (o v u : Value) : argsOk "bytearray.__setitem__" ⟨[o, v, u], []⟩ := by first | rfl | kernel_rfl
theorem ba_no_bytes : typeLookup (.type "bytearray") "__bytes__" = pure none := by rw [typeLookup_type, builtinLookup_eq_fast]; kernel_rfl
theorem ba_no_idx : typeLookup (.type "bytearray") "__index__" = pure none := by rw [typeLookup_type, builtinLookup_eq_fast]; kernel_rfl
theorem ba_buffer : typeLookup (.type "bytearray") "__buffer__" = pure (some (.builtin "bytearray.__buffer__")) := by rw [typeLookup_type, builtinLookup_eq_fast]; kernel_rfl
section
variable {prog : Program} {w : World} {A : Around} {E : Value → Shared → Prop} {s : Shared}
theorem payload_ba {a : Addr} {b : Array UInt8} {Q : Array UInt8 → Shared → Prop} (ho : s.heap.get? a = some (baObj b)) (h : Q b s) : wpAny (model prog w) A (Builtin.Bytes.payload (.ref a)) Q E s := by
  unfold Builtin.Bytes.payload Builtin.Bytes.payload?
  refine wpAny_bind (wpAny_bind (wpAny_load ho ?_))
  exact wpAny_pure (wpAny_pure h)
theorem fits_small {i : Int} (h0 : -(2 ^ 40 : Int) ≤ i) (h1 : i < 2 ^ 40) : Builtin.Bytes.fitsIndex i = true := by
  simp only [Builtin.Bytes.fitsIndex, Bool.and_eq_true, decide_eq_true_eq]; omega
theorem subscript_int {i : Int} {u : Tok} {Q : Option Int → Shared → Prop} (hr : Builtin.Bytes.fitsIndex i = true) (h : Q (some i) s) : wpAny (model prog w) A (Builtin.Bytes.subscript? (.int i u)) Q E s := by
  unfold Builtin.Bytes.subscript?
  refine wpAny_bind (wpAny_specialOf (typeIs_int s i u) F.slot_int_index.lookup ?_)
  show wpAny _ A (if (!Builtin.Bytes.fitsIndex i) = true then _ else pure (some i)) _ E s
  rw [hr]
  exact wpAny_pure h
theorem len_ba {a : Addr} {b : Array UInt8} {Q : Value → Shared → Prop} (ho : s.heap.get? a = some (baObj b)) (hl : b.size ≤ sizeLine) (h : ∀ t k, Q (.int b.size t) { s with toks := k }) : wpAny (model prog w) A (call (.builtin "len") [.ref a]) Q E s := by
  have hl' : b.size ≤ 16777216 := hl
  have hT : s.TypeIs (.ref a) "bytearray" := ⟨_, ho, rfl⟩
  refine Calls.call_function_entry kind_len plain_len entry_len (args_len1 _) ?_
  unfold Builtin.«len»
  refine wpAny_bind (m := oneArg "len" _) (wpAny_pure ?_)
  have lc : wpAny (model prog w) A.in1 (call (.builtin "bytearray.__len__") [.ref a]) (fun v s' => v = .int b.size s.toks ∧ s' = { s with toks := s.toks + 1 }) E s := by
    refine wpAny_call_entry ba_slot_len hT ba_entry_len ?_ (ba_args_len _)
    show wpAny _ _ (Builtin.Bytes.payload (.ref a) >>= fun b => retInt b.size) _ _ _
    exact wpAny_bind (payload_ba ho (wpAny_bind (wpAny_mkInt (wpAny_pure ⟨_, rfl, rfl, rfl⟩))))
  refine wpAny_bind (m := callSpecial? (.ref a) (Str.ofString "__len__")) (wpAny_callSpecial?_slot (name := Str.ofString "__len__") hT ba_slot_len (wpAny_mono lc (fun v s' hq => ?_) fun _ _ e => e))
  obtain ⟨rfl, rfl⟩ := hq
  refine wpAny_bind (wpAny_holding (wpAny_pure ?_))
  refine wpAny_bind (wpAny_letGo ?_)
  show wpAny _ _ (if (b.size : Int) < 0 then _ else _) _ _ _
  rw [if_neg (by omega)]
  show wpAny _ _ (if (b.size : Int) ≥ 2 ^ 63 then _ else _) _ _ _
  rw [if_neg (by omega)]
  exact wpAny_bind (wpAny_mkInt (wpAny_pure ⟨_, rfl, h _ _⟩))
theorem get_ba {a : Addr} {b : Array UInt8} {i : Int} {u : Tok} {c : UInt8} {Q : Value → Shared → Prop} (ho : s.heap.get? a = some (baObj b)) (hr : Builtin.Bytes.fitsIndex i = true) (hi : (seqIndex? i b.size).bind (b[·]?) = some c) (h : Q (.int c.toNat s.toks) { s with toks := s.toks + 1 }) :
    wpAny (model prog w) A (getItem (.ref a) (.int i u)) Q E s := by
  have hT : s.TypeIs (.ref a) "bytearray" := ⟨_, ho, rfl⟩
  refine wpAny_getItem_slot hT (by decide) ba_slot_get (wpAny_call_entry ba_slot_get hT ba_entry_get ?_ (ba_args_get _ _))
  show wpAny _ _ (Builtin.Bytes.subscript? (.int i u) >>= fun r => _) _ E s
  refine wpAny_bind (subscript_int hr ?_)
  show wpAny _ _ (Builtin.Bytes.payload (.ref a) >>= fun b => match (seqIndex? i b.size).bind (b[·]?) with | some x => retInt x.toNat | none => _) _ E s
  refine wpAny_bind (payload_ba ho ?_)
  rw [hi]
  exact wpAny_bind (wpAny_mkInt (wpAny_pure ⟨_, rfl, h⟩))
theorem set_ba {a : Addr} {b : Array UInt8} {i v : Int} {u t : Tok} {k : Nat} {Q : Unit → Shared → Prop} (ho : s.heap.get? a = some (baObj b)) (hl : b.size ≤ sizeLine) (hr : Builtin.Bytes.fitsIndex i = true) (hi : seqIndex? i b.size = some k) (h0 : 0 ≤ v) (h1 : v < 256)
    (h : ∀ h', h'.get? a = some (baObj (b.setIfInBounds k v.toNat.toUInt8)) → Heap.SameBut a s.heap h' → Q () { s with heap := h' }) :
    wpAny (model prog w) A (setItem (.ref a) (.int i u) (.int v t)) Q E s := by
  have hT : s.TypeIs (.ref a) "bytearray" := ⟨_, ho, rfl⟩
  unfold setItem
  refine wpAny_holding ?_
  refine wpAny_bind (wpAny_sequenceKey hT (by decide) ?_)
  refine wpAny_bind (wpAny_callSpecial?_slot (name := Str.ofString "__setitem__") hT ba_slot_set (wpAny_call_entry ba_slot_set hT ba_entry_set ?_ (ba_args_set _ _ _)))
  show wpAny _ _ (Builtin.Bytes.subscript? (.int i u) >>= fun r => _) _ E s
  refine wpAny_bind (subscript_int hr ?_)
  show wpAny _ _ (Builtin.Bytes.byteValue (.int v t) >>= fun x => Builtin.Bytes.payload (.ref a) >>= fun b => match seqIndex? i b.size with | some k => (do Builtin.Bytes.write (.ref a) (·.setIfInBounds k x); ret .none) | none => _) _ E s
  refine wpAny_bind ?_
  unfold Builtin.Bytes.byteValue
  refine wpAny_bind (wpAny_of_eq (rfl : asIndex (.int v t) = pure v) ?_)
  refine bm_if_false (by simp only [Bool.or_eq_false_iff, decide_eq_false_iff_not]; omega) ?_
  refine wpAny_pure ?_
  refine wpAny_bind (payload_ba ho ?_)
  rw [hi]
  refine wpAny_bind (upd_ba ho (by simpa using hl) fun h' e1 e2 => wpAny_pure ⟨.none, rfl, wpAny_pure (h h' e1 e2)⟩)
theorem cut_ba {a sl : Addr} {b : Array UInt8} {hi : Int} {t : Tok} {Q : Value → Shared → Prop} (ho : s.heap.get? a = some (baObj b)) (hl : b.size ≤ sizeLine) (hs : s.heap.IsSliceOf sl .none (.int hi t) .none)
    (h : Q (.ref s.heap.objs.size) { s with heap := s.heap.push (baObj (KBy.picked b none (some hi))) }) : wpAny (model prog w) A (getItem (.ref a) (.ref sl)) Q E s := by
  have hT' : s.TypeIs (.ref a) "bytearray" := ⟨_, ho, rfl⟩
  refine wpAny_getItem_slot hT' (by decide) ba_slot_get (wpAny_call_entry ba_slot_get hT' ba_entry_get ?_ (ba_args_get _ _))
  obtain ⟨o, hso, hc, hd⟩ := hs
  have hT : s.TypeIs (.ref sl) "slice" := ⟨o, hso, hc⟩
  show wpAny _ _ (Builtin.Bytes.subscript? (.ref sl) >>= fun r => _) _ _ s
  refine wpAny_bind ?_
  unfold Builtin.Bytes.subscript?
  refine wpAny_bind (wpAny_specialOf hT slice_no_index (wpAny_pure ?_))
  refine wpAny_bind (wpAny_typeOf hT ?_)
  show wpAny _ _ (Builtin.Bytes.sliceParts (.ref sl) >>= fun r => _) _ _ s
  refine wpAny_bind ?_
  unfold Builtin.Bytes.sliceParts
  refine wpAny_bind (wpAny_field (x := .none) hso hd rfl ?_)
  kby_none
  refine wpAny_ite (KBy.ite_no (show ¬ ((Value.none == rawInt 0) = true) from Bool.false_ne_true) ?_)
  refine wpAny_bind (wpAny_field (x := .none) hso hd rfl ?_)
  kby_none
  refine wpAny_bind (wpAny_field (x := .int hi t) hso hd rfl ?_)
  kby_int
  refine wpAny_pure ?_
  have go : wpAny (model prog w) A.in1 (sliceIndices (rawPart none) (rawPart (some hi)) (rawPart none) b.size) (fun r s' => r = sliceBounds none (some hi) none b.size ∧ s' = s) (fun _ _ => False) s :=
    wpAny_of_eq (sliceIndices_raw none (some hi) none b.size (fun e => nomatch e)) ⟨rfl, rfl⟩
  refine wpAny_bind (payload_ba ho ?_)
  refine wpAny_bind (wpAny_mono go (fun r s' hr => ?_) fun _ _ e => e.elim)
  obtain ⟨hr1, hr2⟩ := hr
  subst hr1 hr2
  refine wpAny_bind (wpAny_newObj_type (wpAny_pure ⟨_, rfl, h⟩) ?_)
  exact Nat.le_trans (KBc.size_picked_le b none (some hi)) hl
theorem bytes_ba {a : Addr} {b : Array UInt8} {Q : Value → Shared → Prop} (ho : s.heap.get? a = some (baObj b)) (hl : b.size ≤ sizeLine) (h : ∀ t k, Q (.bytes b t) { s with toks := k }) : wpAny (model prog w) A (call (.type "bytes") [.ref a]) Q E s := by
  have hT : s.TypeIs (.ref a) "bytearray" := ⟨_, ho, rfl⟩
  refine callType_codes (Q₁ := fun obj s₁ => s₁.TypeIs obj "bytes" ∧ Q obj s₁) F.bm_called (F.bm_typeCall _) F.entry_object_init ?_ fun obj s₁ h₁ => ⟨h₁.1, F.args_object_init_2 obj _, object_init_meets F.bm_called.init.lookup F.bm_called.made (by decide) prog w A.in1 _ s₁ ⟨h₁.1, rfl, h₁.2⟩⟩
  refine codeAny_of_tree ?_
  show wpAny _ _ (do checkBuiltinCall "bytes.__new__" ⟨[.type "bytes", .ref a], []⟩; again (.builtin "bytes.__new__" ⟨[.type "bytes", .ref a], []⟩)) _ _ s
  refine wpAny_bind (wpAny_of_eq (F.bm_newCall _) (wpAny_pure ⟨plainId_quiet F.bm_plain _, codeAny_builtin F.bm_entry ?_⟩))
  rw [Around.under_plainId F.bm_plain _]
  unfold Builtin.«bytes.__new__»
  refine wpAny_bind (wpAny_of_eq (a := true) rfl ?_)
  refine bm_if_false rfl ?_
  refine wpAny_bind (wpAny_of_eq F.bm_sub ?_)
  refine bm_if_false rfl ?_
  refine wpAny_bind (wpAny_of_eq (F.bm_bind _) ?_)
  refine wpAny_bind (wpAny_of_eq (a := ()) rfl ?_)
  refine wpAny_bind (wpAny_of_eq (a := ()) rfl ?_)
  refine bm_if_false rfl ?_
  refine wpAny_bind (wpAny_specialOf hT ba_no_bytes ?_)
  refine wpAny_bind (wpAny_bind ?_)
  show wpAny _ _ (load a >>= _) _ _ _
  refine wpAny_bind (wpAny_load ho ?_)
  refine wpAny_pure (wpAny_pure ?_)
  refine bm_if_false rfl ?_
  refine wpAny_bind (wpAny_specialOf hT ba_no_idx ?_)
  refine bm_if_true rfl ?_
  have main : ∀ {Q' : Option (Array UInt8) → Shared → Prop} {E' : Value → Shared → Prop} {A' : Around}, Q' (some b) s → wpAny (model prog w) A' (Builtin.Bytes.buffer? "bytes.__new__" (.ref a) true) Q' E' s := fun hq => by
    unfold Builtin.Bytes.buffer?
    refine wpAny_bind (wpAny_specialOf hT ba_buffer ?_)
    refine wpAny_bind ?_
    unfold Builtin.Bytes.slotIsOwn
    refine wpAny_bind (wpAny_specialOf hT ba_buffer ?_)
    dsimp only
    rw [if_neg (by decide +kernel)]
    rw [show (("bytearray.__buffer__" : String).dropRight ("__buffer__".length + 1)) = "bytearray" from by decide +kernel]
    refine wpAny_isInstance hT ba_sub ?_
    rw [if_neg (by decide)]
    refine wpAny_bind (wpAny_specialOf hT ba_buffer ?_)
    refine wpAny_bind (own_release_ba ho rfl ?_)
    rw [if_neg Bool.false_ne_true]
    exact wpAny_bind (payload_ba ho (wpAny_pure hq))
  first
    | refine wpAny_bind (main ?_)
    | (refine wpAny_bind (wpAny_bind (main ?_)))
  refine wpAny_bind (wpAny_rule ?_)
  refine wpAny_bind (wpAny_mkBytes ?_ hl)
  show wpAny _ _ (if (Value.type "bytes" == Value.type "bytes") = true then _ else _) _ _ _
  refine bm_if_true (by decide) ?_
  first
    | exact wpAny_pure ⟨PySem.W.typeIs_bytes _ _ _, h _ _⟩
    | exact wpAny_bind (wpAny_pure (wpAny_pure ⟨PySem.W.typeIs_bytes _ _ _, h _ _⟩))
end
def EvR (g : GI) (f : Fm) (ρ : En) (e : Expr) (r : Res) : Prop :=
  ∀ σ (s : Shared) (Q : Value → Shared → Prop) (E : Value → Shared → Prop), St g f σ ρ s.heap →
    (∀ v d h' tk, r = .ok d → Kf f.fs s.heap h' → Rep g.C h' (XOf f σ ρ) d v → Q v { s with heap := h', toks := tk }) →
    (∀ c e' h' tk, r = .exc c → Fly f s.heap h' e' c → E (.ref e') { s with heap := h', toks := tk }) →
    wpP (model g.prog g.w) f.A (eval e f.env) Q E s
def EvsR (g : GI) (f : Fm) (ρ : En) (es : List Expr) (ds : List V) : Prop :=
  ∀ pos σ (s : Shared) (Q : List Value → Shared → Prop) (E : Value → Shared → Prop), St g f σ ρ s.heap →
    (∀ vs h' tk, Kf f.fs s.heap h' → RepL g.C h' (XOf f σ ρ) ds vs → Q vs { s with heap := h', toks := tk }) →
    wpP (model g.prog g.w) f.A (spliced (backTo pos (starEach es f.env))) Q E s
def EvOR (g : GI) (f : Fm) (ρ : En) (e : Expr) (b : B) : Prop :=
  ∀ σ (s : Shared) (Q : Value → Shared → Prop) (E : Value → Shared → Prop), St g f σ ρ s.heap →
    (∀ a h' tk, Kf f.fs s.heap h' → s.heap.get? a = none → VarOk g f h' (fun b => XOf f σ ρ b ∨ b = a) (fun _ => some (.ref a)) a "" b → Q (.ref a) { s with heap := h', toks := tk }) →
    wpP (model g.prog g.w) f.A (eval e f.env) Q E s
def TeR (g : GI) (f : Fm) (ρ : En) (e : Expr) (b : Bool) : Prop :=
  ∀ σ (s : Shared) (Q : Bool → Shared → Prop) (E : Value → Shared → Prop), St g f σ ρ s.heap →
    (∀ h' tk, Kf f.fs s.heap h' → Q b { s with heap := h', toks := tk }) →
    wpP (model g.prog g.w) f.A (isTrue e f.env (eval e f.env)) Q E s
def ExR (g : GI) (f : Fm) (ρ : En) (b : List Stmt) (O : Out → Prop) : Prop :=
  ∀ σ (s : Shared) (Q : Flow → Shared → Prop) (E : Value → Shared → Prop), St g f σ ρ s.heap →
    (∀ fl o h' tk, O o → OutOk g f σ ρ s.heap h' fl o → Q fl { s with heap := h', toks := tk }) →
    (∀ c ρ' e h' tk, O (.exc c ρ') → ExcOk g f σ ρ s.heap h' e c ρ' → E (.ref e) { s with heap := h', toks := tk }) →
    wpP (model g.prog g.w) f.A (execs b f.env) Q E s
def FnR (g : GI) (n : Nat) (fv : Value) (ds : List V) (r : Res) : Prop :=
  ∀ (A : Around) (l : List Env) (Y : Addr → Prop) (vs : List Value) (s : Shared) (R : Result → Shared → Prop), g.Ok → A.frames = some l → A.handled = none → Room A n →
    CallSt g l s.heap → (∀ b ∈ fsOf l, Y b) → (∀ b, Y b → ∃ o, s.heap.get? b = some o) → (∀ b, Y b → g.H0.get? b = none) → RepL g.C s.heap Y ds vs →
    (∀ v d h' tk, r = .ok d → Kf (fsOf l) s.heap h' → Rep g.C h' Y d v → R (.ok (.ret v)) { s with heap := h', toks := tk }) →
    (∀ c e a0 h' tk, r = .exc c → Kf (fsOf l) s.heap h' → Heap.FlyingW (hideAll s.heap (fsOf l)) l e c a0 h' → R (.error (.ref e)) { s with heap := h', toks := tk }) →
    codeP (model g.prog g.w) A (.call fv ⟨vs, []⟩) R s
section
variable {g : GI} {f : Fm} {n m : Nat} {ρ : En}
theorem Ev.up {e : Expr} {r : Res} (h : Ev g f ρ e r) : EvR g f ρ e r := fun σ s Q E S q ex => wpP_of (h σ s Q E S q ex)
theorem Te.up {e : Expr} {b : Bool} (h : Te g f ρ e b) : TeR g f ρ e b := fun σ s Q E S q => wpP_of (h σ s Q E S q)
theorem Ex.up {b : List Stmt} {O : Out → Prop} (h : Ex g f ρ b O) : ExR g f ρ b O := fun σ s Q E S q ex => wpP_of (h σ s Q E S q ex)
theorem Evs.up {es : List Expr} {ds : List V} (h : Evs g f ρ es (.ok ds)) : EvsR g f ρ es ds := fun pos σ s Q E S q => wpP_of (h pos σ s Q E S (fun vs ds' h' tk ed k r => by injection ed with ed; subst ed; exact q vs h' tk k r) fun c e' h' tk ec => nomatch ec)
theorem EvsR.cons {e : Expr} {es : List Expr} {d : V} {ds : List V} (ok : FmOk g f n) (h1 : EvR g f ρ e (.ok d)) (h2 : EvsR g f ρ es ds) (hns : starEach (e :: es) f.env = (false, eval e f.env) :: starEach es f.env) :
    EvsR g f ρ (e :: es) (d :: ds) := fun pos σ s Q E S q => by
  rw [hns]
  show wpP _ _ (do
    let v ← eval e f.env
    let here ← (pure [v] : Sem (List Value))
    return here ++ (← holding here (spliced (backTo pos (starEach es f.env))))) Q E s
  refine wpP_bind (h1 σ s _ _ S (fun v d' h₁ t₁ ed k₁ r₁ => ?_) fun c e' h' tk ec => nomatch ec)
  injection ed with ed; subst ed
  refine wpP_then (wpAny_pure (wpP_bind (wpP_holding (h2 pos σ _ _ _ (S.mono ok k₁) fun vs h₂ t₂ k₂ r₂ => wpP_of (wpAny_pure ?_)))))
  refine q (v :: vs) h₂ t₂ (k₁.trans k₂) ?_
  simp only [RepL]
  exact ⟨v, vs, rfl, r₁.mono (k₂.kx S.fsX) fun b m => .inl m, r₂⟩
theorem callR_of {fv : Value} {σ : Sp} {ds : List V} {r : Res} {vs : List Value} {s : Shared} {Q : Value → Shared → Prop} {E : Value → Shared → Prop} (ok : FmOk g f n) (hm : m ≤ n) (S : St g f σ ρ s.heap) (hr : RepL g.C s.heap (XOf f σ ρ) ds vs)
    (hf : FnR g m fv ds r)
    (q : ∀ v d h' tk, r = .ok d → Kf f.fs s.heap h' → Rep g.C h' (XOf f σ ρ) d v → Q v { s with heap := h', toks := tk })
    (ex : ∀ c e' h' tk, r = .exc c → Fly f s.heap h' e' c → E (.ref e') { s with heap := h', toks := tk }) :
    wpP (model g.prog g.w) f.A (call fv vs) Q E s := by
  refine wpP_call ?_
  exact hf f.A f.stack (XOf f σ ρ) vs s _ ok.G ok.fr ok.hd (ok.room.mono hm) (S.call ok) (fun b hb => S.fsX b (ok.sub b hb)) (fun b hb => S.Xex hb) (fun b hb => S.X0 ok hb) hr (fun v d h' tk e k rep => q v d h' tk e (k.mono ok.sub) rep) fun c e a0 h' tk er k fl => ex c e h' tk er (fly_of ok k fl)
theorem callWith_R {M : Model} {A : Around} {E : Value → Shared → Prop} {s : Shared} {pos : Pos} {fv : Value} {first : List Value} {Q : Value → Shared → Prop} {P : Heap → Prop} {args : List (Bool × Sem Value)} {keywords : List (Option Str × Sem Value)} (hplain : (args.any (·.1) || keywords.any (·.1.isNone)) = false)
    (hk : ∀ h, P h → ∃ k, (k = Keeper.frame ∨ k = Keeper.machine ∨ k = Keeper.boundFrame) ∧ Looks M h (keeperOf fv) k)
    (h : wpP M A (evalArgs fv true args keywords) (fun a s₁ => P s₁.heap ∧ wpP M A (call fv (first ++ a.pos) a.kw) Q E s₁) E s) : wpP M A (callWith pos fv first args keywords) Q E s := by
  unfold callWith
  refine wpP_bind (wpP_holding (wpP_mono h (fun a s₁ h₁ => wpP_then (wpAny_standAt ?_)) fun _ _ x => x))
  obtain ⟨k, hk', L⟩ := hk _ h₁.1
  simp only [hplain]
  refine wpP_then (L.here ?_)
  have tail : ∀ {t : Sem Value}, wpP M A t Q E s₁ → wpP M A (t >>= fun r => holding [r] point >>= fun _ => pure r) Q E s₁ :=
    fun ht => wpP_bind (wpP_mono ht (fun r s₂ hr => wpP_of (wpAny_bind (wpAny_holding (wpAny_point (wpAny_pure hr))))) fun _ _ x => x)
  have marked (mk : Value) : wpP M A (callMarked mk fv (first ++ a.pos) a.kw) Q E s₁ := by unfold callMarked; exact wpP_keep h₁.2
  rcases hk' with rfl | rfl | rfl <;> dsimp only <;> first | exact tail h₁.2 | (split <;> first | exact tail h₁.2 | exact tail (marked _))
theorem evalArgs_R {M : Model} {A : Around} {E : Value → Shared → Prop} {s : Shared} {fv : Value} {x : Sem Value} {rest : List (Bool × Sem Value)} {Q : Args → Shared → Prop}
    (h : wpP M A (spliced ((false, x) :: rest)) (fun vs s' => Q ⟨vs, []⟩ s') E s) : wpP M A (evalArgs fv true ((false, x) :: rest) []) Q E s := by
  unfold evalArgs
  show wpP M A (spliced ((false, x) :: rest) >>= _) Q E s
  refine wpP_bind (wpP_mono h (fun vs s' h' => ?_) fun _ _ x => x)
  refine wpP_holding ?_
  exact wpP_of (wpAny_bind (wpAny_pure (wpAny_bind (wpAny_pure (wpAny_pure h')))))
theorem callR_evs {fv : Value} {dfirst : List V} {first : List Value} {e : Expr} {es : List Expr} {pos : Pos} {σ : Sp} {ds : List V} {s : Shared} {Q : Value → Shared → Prop} {E : Value → Shared → Prop}
    (ok : FmOk g f n) (hk : Kept g fv) (S : St g f σ ρ s.heap) (hfirst : RepL g.C s.heap (XOf f σ ρ) dfirst first)
    (hh : starEach (e :: es) f.env = (false, eval e f.env) :: starEach es f.env) (hplain : (backTo pos (starEach es f.env)).any (·.1) = false) (ha : EvsR g f ρ (e :: es) ds)
    (hf : ∀ vs h' tk, Kf f.fs s.heap h' → St g f σ ρ h' → RepL g.C h' (XOf f σ ρ) (dfirst ++ ds) vs → wpP (model g.prog g.w) f.A (call fv vs) Q E { s with heap := h', toks := tk }) :
    wpP (model g.prog g.w) f.A (callWith pos fv first (backTo pos (starEach (e :: es) f.env)) []) Q E s := by
  refine callWith_R (P := fun h => g.K.In h) (by rw [hh]; show ((false || (backTo pos (starEach es f.env)).any (·.1)) || false) = false; rw [hplain]; rfl) (kept_looks hk) ?_
  have hpos := ha pos
  rw [hh] at hpos ⊢
  refine evalArgs_R (x := eval e f.env) (rest := backTo pos (starEach es f.env)) ?_
  refine hpos σ s _ _ S fun vs h' tk k rr => ?_
  have S' := S.mono ok k
  exact ⟨ok.G.X.keeps S'.cs.keep, hf _ h' tk k S' (RepL.append (hfirst.mono (k.kx S.fsX) fun b m => .inl m) rr)⟩
theorem callNameR {x : Str} {np pos : Pos} {args : List Expr} {M : Model} {A : Around} {env : Env} {E : Value → Shared → Prop} {s : Shared} {Q : Value → Shared → Prop}
    (h : wpAny M A (eval (.Name x np) env) (fun f s₁ => wpP M A (callWith pos f [] (backTo pos (starEach args env)) []) Q E s₁) E s) : wpP M A (eval (.Call (.Name x np) args [] pos) env) Q E s := by
  show wpP M A (do callWith pos (← eval (.Name x np) env) [] (backTo pos (starEach args env)) []) Q E s
  exact wpP_then h
theorem EvR.call {x : Str} {np pos : Pos} {fv : Value} {e : Expr} {es : List Expr} {ds : List V} {r : Res} (ok : FmOk g f n) (hx : f.env.kindOf x = some .globalImplicit) (gv : GV g x fv) (hk : Kept g fv) (hm : m ≤ n)
    (ha : EvsR g f ρ (e :: es) ds) (hf : FnR g m fv ds r)
    (hh : starEach (e :: es) f.env = (false, eval e f.env) :: starEach es f.env := by rfl) (hplain : (backTo pos (starEach es f.env)).any (·.1) = false := by rfl) :
    EvR g f ρ (.Call (.Name x np) (e :: es) [] pos) r := fun σ s Q E S q ex => by
  refine callNameR (gv f n np s _ _ ok hx S.cs ?_)
  refine callR_evs (dfirst := []) (first := []) ok hk S (by simp only [RepL]) hh hplain ha fun vs h' tk k S' rr => ?_
  exact callR_of (s := { s with heap := h', toks := tk }) ok hm S' rr hf (fun v d h'' tk' er k' rep => q v d h'' tk' er (k.trans k') rep) fun c e' h'' tk' er fl => ex c e' h'' tk' er (fl.trans k)
theorem EvR.callB {x : Str} {np pos : Pos} {fv : Value} {e : Expr} {es : List Expr} {ds : List V} {r : Res} (ok : FmOk g f n) (hx : f.env.kindOf x = some .globalImplicit) (gv : GV g x fv) (hk : Kept g fv)
    (ha : EvsR g f ρ (e :: es) ds) (hf : Bi g n fv ds r)
    (hh : starEach (e :: es) f.env = (false, eval e f.env) :: starEach es f.env := by rfl) (hplain : (backTo pos (starEach es f.env)).any (·.1) = false := by rfl) :
    EvR g f ρ (.Call (.Name x np) (e :: es) [] pos) r := fun σ s Q E S q ex => by
  refine callNameR (gv f n np s _ _ ok hx S.cs ?_)
  refine callR_evs (dfirst := []) (first := []) ok hk S (by simp only [RepL]) hh hplain ha fun vs h' tk k S' rr => wpP_of ?_
  exact hf f ρ σ { s with heap := h', toks := tk } Q E vs ok S' rr (fun v d h'' tk' er k' rep => q v d h'' tk' er (k.trans k') rep) fun c e' h'' tk' er fl => ex c e' h'' tk' er (fl.trans k)
theorem EvR.meth {o e : Expr} {es : List Expr} {name : Str} {apos pos : Pos} {fa : Addr} {ls : List (List UInt8)} {ds : List V} {r : Res} (ok : FmOk g f n) (hM : MethK g name fa) (hm : m ≤ n)
    (ho : EvR g f ρ o (.ok (.name ls))) (ha : EvsR g f ρ (e :: es) ds) (hf : FnR g m (.ref fa) (.name ls :: ds) r)
    (hb : attributeBase o name f.env (eval o f.env) = eval o f.env := by rfl) (hfew : methodCallForm ((e :: es).length + 0) (backTo pos (starEach (e :: es) f.env)) [] = true := by rfl) (hline : (apos.endLine == pos.line) = true := by rfl)
    (hh : starEach (e :: es) f.env = (false, eval e f.env) :: starEach es f.env := by rfl) (hplain : (backTo pos (starEach es f.env)).any (·.1) = false := by rfl) :
    EvR g f ρ (.Call (.Attribute o name apos) (e :: es) [] pos) r := fun σ s Q E S q ex => by
  rw [meth_eq hb hfew hline]
  refine wpP_bind (ho σ s _ _ S (fun v d h₁ t₁ ed k₁ r₁ => ?_) fun c e' h' tk ec => nomatch ec)
  injection ed with ed; subst ed
  have S₁ := S.mono ok k₁
  obtain ⟨x, dx, t, hs, tk, nn, rfl, I, _⟩ := name_inst r₁
  have X : g.K.In h₁ := ok.G.X.keeps S₁.cs.keep
  refine wpP_then (wpAny_standAt (wpP_then (wpAny_holding (method_fn (s := { s with heap := h₁, toks := t₁ }) X I hM.ga hM.gx hM.hf hM.ht ?_ ?_))))
  · unfold shadowIn lookIn
    have : ((Value.str "labels" tk).isStr name) = false := by simpa [Value.isStr] using hM.nl
    simp [this, DictEntry.refKey]
  · refine callR_evs (s := { s with heap := h₁, toks := t₁ }) (dfirst := [.name ls]) (first := [.ref x]) ok (.inr hM.kp) S₁ (by simp only [RepL]; exact ⟨_, _, rfl, r₁, rfl⟩) hh hplain ha fun vs h' tk k S' rr => ?_
    exact callR_of (s := { s with heap := h', toks := tk }) ok hm S' rr hf (fun v d h'' tk' er k' rep => q v d h'' tk' er ((k₁.trans k).trans k') rep) fun c e' h'' tk' er fl => ex c e' h'' tk' er (fl.trans (k₁.trans k))
theorem EvR.labels {o : Expr} {pos : Pos} {ls : List (List UInt8)} (ok : FmOk g f n) (hK : LabK g) (ho : EvR g f ρ o (.ok (.name ls)))
    (he : eval (.Attribute o "labels" pos) f.env = (do
      let o' ← eval o f.env
      standAt pos.atName
      let r ← holding [o'] (getAttr o' "labels" true)
      letTemporaryGo o o' r
      pure r) := by rfl) : EvR g f ρ (.Attribute o "labels" pos) (.ok (.tup (ls.map .bytes))) := fun σ s Q E S q ex => by
  rw [he]
  refine wpP_bind (ho σ s _ _ S (fun v d h₁ t₁ ed k₁ r₁ => ?_) fun c e' h' tk ec => nomatch ec)
  injection ed with ed; subst ed
  have S₁ := S.mono ok k₁
  obtain ⟨x, dx, t, hs, tk, nn, rfl, I, rt⟩ := name_inst r₁
  have X : g.K.In h₁ := ok.G.X.keeps S₁.cs.keep
  refine wpP_of (wpAny_bind (wpAny_standAt (wpAny_bind (wpAny_holding ?_))))
  refine get_value (s := { s with heap := h₁, toks := t₁ }) X I hK.ga (findObj_own (v := .ref t) (attr := none) hK.hd hK.ha rfl ?_) rfl ?_
  · unfold lookIn
    simp [Value.isStr]
  · exact wpAny_bind (wpAny_letTemporaryGo (wpAny_pure (q _ _ h₁ _ rfl k₁ rt)))
theorem EvR.listD {es : List Expr} {pos : Pos} {ds : List V} (ok : FmOk g f n) (he : EvsR g f ρ es ds) (hl : ds.length ≤ 1000) : EvR g f ρ (.List es pos) (.ok (.list ds)) := fun σ s Q E S q ex => by
  show wpP _ _ (do standAt pos; newList (← spliced (backTo pos (starEach es f.env)))) Q E s
  refine wpP_then (wpAny_standAt (wpP_bind (he pos σ s _ _ S fun vs h₁ t₁ k r => wpP_of ?_)))
  have hlen : vs.length ≤ sizeLine := by rw [RepL.length r]; exact small_line hl
  refine newSeq (s := { s with heap := h₁, toks := t₁ }) hlen (q _ _ _ t₁ rfl (k.trans (push_kf _ _ _)) ?_)
  simp only [Rep]
  exact ⟨_, vs, _, rfl, ⟨Heap.get?_push_size _ rfl, (S.mono ok k).fresh_off (none_of_ge (Nat.le_refl _))⟩, push_repl r, hlen⟩
theorem TeR.cmp {l r : Expr} {op : CmpOp} {pos : Pos} {a b : V} {c : Bool} (ok : FmOk g f n) (hl : EvR g f ρ l (.ok a)) (hr : Ev g f ρ r (.ok b)) (ho : Op2 g n (compareOp op) a b (.ok (.bool c))) (hm : behindInMarks op r = false := by rfl) :
    TeR g f ρ (.Compare l [op] [r] pos) c := fun σ s Q E S q => by
  rw [isTrue_Compare1, markedBehindIn_of_false hm]
  refine wpP_bind (hl σ s _ _ S (fun v d h₁ t₁ e k₁ r₁ => wpP_of ?_) fun c e' h' tk ec => nomatch ec)
  injection e with e; subst e
  refine wpAny_bind (wpAny_holding (hr σ _ _ _ (S.mono ok k₁) (fun u d h₂ t₂ e k₂ r₂ => ?_) fun c e' h' tk ec => nomatch ec))
  injection e with e; subst e
  refine wpAny_bind (wpAny_standAt (wpAny_bind (wpAny_operateT (ho f ρ σ { s with heap := h₂, toks := t₂ } _ E v u ok (S.mono ok (k₁.trans k₂)) (rmono S r₁ k₂) r₂ (fun v d h' tk e k r => ?_) fun c e' h' tk ec => nomatch ec))))
  injection e with e; subst e
  simp only [Rep] at r; subst r
  exact wpAny_holding (wpAny_truthy_bool (q h' tk ((k₁.trans k₂).trans k)))
end
section
variable {M : Model} {A : Around} {E : Value → Shared → Prop} {s : Shared} {env : Env}
theorem wpP_Try_except {body orelse : List Stmt} {h₀ : ExceptHandler} {hs : List ExceptHandler} {pos : Pos} {Q : Flow → Shared → Prop}
    (h : wpP M A (execs body env) (fun f s₁ => match f with | .next => wpAny M A (execs orelse env) Q E s₁ | f => Q f s₁)
      (fun e s₁ => wpAny M A (noteFrame e env) (fun _ s₂ => wpAny M A (setFlight e none) (fun _ s₃ => wpAny M A (handleBy e env (h₀ :: hs)) Q E s₃) E s₂) E s₁) s) :
    wpP M A (exec (.Try body (h₀ :: hs) orelse [] pos) env) Q E s := by
  rw [arm_exec_Try]
  refine wpP_then (wpAny_standAt ?_)
  unfold tryStmt
  simp only [List.isEmpty_nil, if_true, List.isEmpty_cons, Bool.false_and, Bool.false_eq_true, if_false]
  refine wpP_bind (wpP_attempt (wpP_mono h (fun f s₁ h₁ => ?_) fun e s₁ h₁ => ?_))
  · cases f <;> first | exact wpP_of h₁ | exact wpP_of (wpAny_pure h₁)
  · exact wpP_of (wpAny_bind (wpAny_mono h₁ (fun _ _ h₂ => wpAny_bind h₂) fun _ _ x => x))
theorem wpP_Expr_any {prog : Program} {w : World} {e : Expr} {pos : Pos} {Q : Flow → Shared → Prop} (h : wpP (model prog w) A (eval e env) (fun _ => Q .next) E s)
    (hi : interactive env = false := by rfl) (hs : swapsWith e none pos.line env = pure false := by rfl) : wpP (model prog w) A (exec (.Expr e pos) env) Q E s := by
  rw [exec_Expr env e pos hi hs]
  exact wpP_then (wpAny_standAt (wpP_bind (wpP_mono h (fun v s' h' => wpP_of (wpAny_dropValue h')) fun _ _ x => x)))
end
section
variable {g : GI} {f : Fm} {n m : Nat} {ρ : En}
theorem ExR.after {σ σ' : Sp} {ρ ρ' : En} {b : List Stmt} {O : Out → Prop} {s : Shared} {h' : Heap} {tk : Nat} {Q : Flow → Shared → Prop} {E : Value → Shared → Prop} (x : ExR g f ρ' b O) (S : St g f σ' ρ' h') (t : Trn f σ ρ s.heap σ' ρ' h')
    (q : ∀ fl o h' tk, O o → OutOk g f σ ρ s.heap h' fl o → Q fl { s with heap := h', toks := tk })
    (ex : ∀ c ρ' e h' tk, O (.exc c ρ') → ExcOk g f σ ρ s.heap h' e c ρ' → E (.ref e) { s with heap := h', toks := tk }) :
    wpP (model g.prog g.w) f.A (execs b f.env) Q E { s with heap := h', toks := tk } :=
  x σ' { s with heap := h', toks := tk } Q E S (fun fl o h'' tk' ho ok => q fl o h'' tk' ho (ok.pre t)) fun c ρ'' e h'' tk' ho ok => ex c ρ'' e h'' tk' ho (ok.pre t)
theorem ExR.mono {b : List Stmt} {O O' : Out → Prop} (x : ExR g f ρ b O) (h : ∀ o, O o → O' o) : ExR g f ρ b O' :=
  fun σ s Q E S q e => x σ s Q E S (fun fl o h' tk ho => q fl o h' tk (h _ ho)) fun c ρ' e' h' tk ho => e c ρ' e' h' tk (h _ ho)
theorem ExR.weak {ρ' : En} {b : List Stmt} {O : Out → Prop} (w : Weak ρ ρ') (h : ExR g f ρ' b O) : ExR g f ρ b O := fun σ s Q E S q ex => h.after (S.weak w) (w.trn σ s.heap) q ex
theorem ExR.nil {O : Out → Prop} (h : O (.next ρ)) : ExR g f ρ [] O := (Ex.nil h).up
theorem ExR.seq {st : Stmt} {rest : List Stmt} {O₁ O : Out → Prop} (h : ExR g f ρ [st] O₁) (hn : ∀ ρ', O₁ (.next ρ') → ExR g f ρ' rest O) (ho : ∀ o, O₁ o → (∀ ρ', o ≠ .next ρ') → O o) : ExR g f ρ (st :: rest) O := fun σ s Q E S q ex => by
  have h1 := h σ s (fun fl s' => match fl with | .next => wpP (model g.prog g.w) f.A (execs rest f.env) Q E s' | fl => Q fl s') E S (fun fl o h' tk o1 ok1 => by
      cases o with
      | next ρ' => obtain ⟨rfl, σ', S', T'⟩ := ok1; exact (hn ρ' o1).after S' T' q ex
      | brk ρ' => obtain ⟨rfl, z⟩ := ok1; exact q _ _ h' tk (ho _ o1 fun _ e => nomatch e) ⟨rfl, z⟩
      | cont ρ' => obtain ⟨rfl, z⟩ := ok1; exact q _ _ h' tk (ho _ o1 fun _ e => nomatch e) ⟨rfl, z⟩
      | ret d => obtain ⟨v, rfl, z⟩ := ok1; exact q _ _ h' tk (ho _ o1 fun _ e => nomatch e) ⟨v, rfl, z⟩
      | exc _ _ => exact ok1.elim) (fun c ρ' e h' tk o1 x => ex c ρ' e h' tk (ho _ o1 fun _ e => nomatch e) x)
  exact wpP_execs_cons (execP_of_execs h1)
theorem ExR.then {st : Stmt} {rest : List Stmt} {ρ' : En} {O : Out → Prop} (h : Ex g f ρ [st] (fun o => o = .next ρ')) (hn : ExR g f ρ' rest O) : ExR g f ρ (st :: rest) O :=
  ExR.seq h.up (fun ρ'' e => by injection e with e; subst e; exact hn) fun o e hne => (hne _ e).elim
theorem ExR.assign {x : Str} {xp pos : Pos} {e : Expr} {rest : List Stmt} {d : V} {O : Out → Prop} (ok : FmOk g f n) (i : Nat) (hx : f.xs[i]? = some x) (he : EvR g f ρ e (.ok d)) (h : ExR g f (ρ.set i (some (.sh d))) rest O)
    (hs : swapsWith e (some (.Name x xp)) pos.line f.env = pure false := by rfl) : ExR g f ρ (.Assign [.Name x xp] e pos :: rest) O := fun σ s Q E S q ex => by
  refine wpP_execs_cons (wpP_Assign_Name (he σ s _ _ S (fun v d' h' tk er k rep => ?_) fun c e' h' tk er fl => nomatch er) hs)
  injection er with er; subst er
  exact store_sh (s := { s with heap := h', toks := tk }) ok (S.mono ok k) hx rep fun h'' tk' S' T' => ExR.after (σ := σ) (ρ := ρ) (s := s) h S' ((k.trn).trans T') q ex
theorem ExR.ret {e : Expr} {pos : Pos} {rest : List Stmt} {r : Res} {O : Out → Prop} (ok : FmOk g f n) (he : EvR g f ρ e r) (h : ∀ d, r = .ok d → O (.ret d)) (hc : ∀ c, r = .exc c → O (.exc c ρ)) : ExR g f ρ (.Return (some e) pos :: rest) O := fun σ s Q E S q ex => by
  refine wpP_execs_cons (wpP_Return_some (he σ s _ _ S (fun v d h' tk er k rep => ?_) fun c e' h' tk er fl => ?_))
  · exact q (.ret v) (.ret d) h' tk (h d er) ⟨v, rfl, ret_ok (S.mono ok k) rep⟩
  · exact ex c ρ e' h' tk (hc c er) ⟨σ, s.heap, S, Trn.refl .., .inl fl⟩
theorem ExR.expr {e : Expr} {pos : Pos} {rest : List Stmt} {r : Res} {O : Out → Prop} (ok : FmOk g f n) (he : EvR g f ρ e r) (h : ∀ d, r = .ok d → ExR g f ρ rest O) (hc : ∀ c, r = .exc c → O (.exc c ρ))
    (hi : interactive f.env = false := by rfl) (hs : swapsWith e none pos.line f.env = pure false := by rfl) : ExR g f ρ (.Expr e pos :: rest) O := fun σ s Q E S q ex => by
  refine wpP_execs_cons (wpP_Expr_any (he σ s _ _ S (fun v d h' tk er k rep => ?_) fun c e' h' tk er fl => ?_) hi hs)
  · exact ExR.after (σ := σ) (ρ := ρ) (s := s) (h d er) (S.mono ok k) k.trn q ex
  · exact ex c ρ e' h' tk (hc c er) ⟨σ, s.heap, S, Trn.refl .., .inl fl⟩
theorem ExR.ite {t : Expr} {a b : List Stmt} {pos : Pos} {c : Bool} {O : Out → Prop} (ok : FmOk g f n) (ht : TeR g f ρ t c) (ha : c = true → ExR g f ρ a O) (hb : c = false → ExR g f ρ b O) : ExR g f ρ [.If t a b pos] O := fun σ s Q E S q ex => by
  have fin : wpP (model g.prog g.w) f.A (exec (.If t a b pos) f.env) Q E s := by
    refine wpP_If (ht σ s _ E S fun h' tk k => ?_)
    cases c with
    | true => simp only [if_true]; exact (ha rfl).after (S.mono ok k) (k.trn) q ex
    | false => simp only [Bool.false_eq_true, if_false]; exact (hb rfl).after (S.mono ok k) (k.trn) q ex
  refine wpP_execs_cons (wpP_mono fin (fun fl s' h => ?_) fun _ _ h => h)
  cases fl <;> first | exact h | exact wpP_of (wpAny_execs_nil h)
theorem ExR.iff {t : Expr} {a b rest : List Stmt} {pos : Pos} {c : Bool} {O : Out → Prop} (ok : FmOk g f n) (ht : TeR g f ρ t c) (O₁ : Out → Prop) (ha : c = true → ExR g f ρ a O₁) (hb : c = false → ExR g f ρ b O₁)
    (hn : ∀ ρ', O₁ (.next ρ') → ExR g f ρ' rest O) (ho : ∀ o, O₁ o → (∀ ρ', o ≠ .next ρ') → O o) : ExR g f ρ (.If t a b pos :: rest) O := ExR.seq (ExR.ite ok ht ha hb) hn ho
theorem ExR.assignO {x : Str} {xp pos : Pos} {e : Expr} {rest : List Stmt} {b : B} {O : Out → Prop} (ok : FmOk g f n) (i : Nat) (hx : f.xs[i]? = some x) (he : EvOR g f ρ e b) (hob : b.obj = true) (h : ExR g f (ρ.set i (some b)) rest O)
    (hs : swapsWith e (some (.Name x xp)) pos.line f.env = pure false := by rfl) : ExR g f ρ (.Assign [.Name x xp] e pos :: rest) O := fun σ s Q E S q ex => by
  have hb : b.owns = true := B.obj_owns hob
  refine wpP_execs_cons (wpP_Assign_Name (he σ s _ _ S fun a h' tk k hn hv => ?_) hs)
  let σ' : Sp := ⟨σ.Y, fun j => if j = i then a else σ.α j⟩
  have hσi : σ'.α i = a := by simp [σ']
  have e1 : f.hE.get? a = none := by
    cases z : f.hE.get? a with
    | none => rfl
    | some o => obtain ⟨_, q⟩ := (S.kE a o z).2; rw [hn] at q; cases q
  have e2 : g.H0.get? a = none := by
    cases z : g.H0.get? a with
    | none => rfl
    | some o => have := S.cs.keep a o z; rw [hn] at this; cases this
  have e3 : a ≠ f.L := fun z => by
    obtain ⟨_, ⟨oL, _, _, hL, _⟩, _⟩ := S.ex; rw [← z, hn] at hL; cases hL
  refine store_any (s := { s with heap := h', toks := tk }) (b := b) (σ' := σ') ok S k hx (fun j hj => by simp [σ', hj]) rfl (fun _ => by rw [hσi]; exact ⟨⟨e1, e3, e2⟩, hn⟩) (fun h'' m kk em => ?_) fun h'' S' T' => ExR.after (σ := σ) (ρ := ρ) (s := s) h S' T' q ex
  rw [hσi]
  have hX : ∀ c, XOf f σ' (ρ.set i (some b)) c → (XOf f σ ρ c ∨ c = a) ∨ h'.get? c = none := fun c hc => by
    rcases hc with hc | hc | ⟨j, ⟨b', hb', ho'⟩, hc⟩
    · exact .inl (.inl (.inl hc))
    · exact .inl (.inl (.inr (.inl hc)))
    · rcases set_get hb' with ⟨e, _⟩ | ⟨e, e'⟩
      · subst e; exact .inl (.inr (hc.trans hσi))
      · refine .inl (.inl (.inr (.inr ⟨j, ⟨b', e', ho'⟩, ?_⟩))); rw [hc]; simp [σ', e]
  have kx : KX (fun c => XOf f σ ρ c ∨ c = a) h' h'' := fun c o ec nc => kk c o (fun z => nc (.inl (.inr (.inl z)))) ec
  have := hv.step (m' := fun _ => some (.ref a)) kx hX rfl fun _ o eo => kk a o e3 eo
  cases b with
  | sh d => cases hb
  | bo d => cases hb
  | ce d => cases hob
  | bc d => cases hob
  | me d => cases hob
  | li ds => obtain ⟨_, r⟩ := this; exact ⟨em, r⟩
  | ba bs => obtain ⟨_, r⟩ := this; exact ⟨em, r⟩
theorem ExR.for {x : Str} {px pos : Pos} {e : Expr} {body : List Stmt} {items : List V} {O : Out → Prop} {τ : Type} (ok : FmOk g f n) (i : Nat) (hx : f.xs[i]? = some x) (he : ItSrc g f ρ e items) (R : τ → En) (J : Nat → τ → Prop) (t0 : τ) (h0 : Weak ρ (R t0)) (j0 : J 0 t0)
    (turn : ∀ (k : Nat) (t : τ) (d : V), items[k]? = some d → J k t → ExR g f ((R t).set i (some (.sh d))) body (TurnO (fun ρ' => ∃ t', J (k + 1) t' ∧ Weak ρ' (R t')) O))
    (done : ∀ t, J items.length t → O (.next (R t))) (hs : ∀ x, foldedSetIterable e f.env x = pure x := by intro _; rfl) : ExR g f ρ [.For (.Name x px) e body [] pos] O := fun σ s Q E S q ex => by
  have fin : wpP (model g.prog g.w) f.A (exec (.For (.Name x px) e body [] pos) f.env) Q E s := by
    refine wpP_For (he σ s _ E S fun I h₁ h₂ tk fp P Stt k₁ k₂ hI exI W st0 hfp hP => ?_) hs
    have S₁ := S.mono ok k₁
    have S₂ : St g f (σ.plus I) ρ h₂ := S₁.plus ok k₂ hI (exI 0 _ st0)
    have e1 : f.hE.get? I = none := by
      cases z : f.hE.get? I with
      | none => rfl
      | some o => obtain ⟨_, q⟩ := (S₁.kE I o z).2; rw [hI] at q; cases q
    have e2 : g.H0.get? I = none := by
      cases z : g.H0.get? I with
      | none => rfl
      | some o => have := S₁.cs.keep I o z; rw [hI] at this; cases this
    have e3 : I ∉ f.fs := fun m => by
      rw [Fm.fs_eq] at m
      rcases List.mem_cons.mp m with z | z
      · obtain ⟨m, ⟨oL, _, _, hL, _⟩, _⟩ := S₁.ex; rw [← z, hI] at hL; cases hL
      · obtain ⟨o, z', _⟩ := (S₁.cs.ff.mem z).2; rw [hI] at z'; cases z'
    have e4 : ¬ OwnA σ ρ I := by
      rintro ⟨j, ⟨b', hb', ho⟩, hj⟩
      obtain ⟨m', _, hv⟩ := S₁.ex
      have hl : j < f.nm.length := Nat.lt_of_lt_of_le (List.getElem?_eq_some_iff.mp hb').1 S₁.len
      obtain ⟨o, z⟩ := (hv j _ b' (List.getElem?_eq_getElem hl) hb').there ho
      rw [← hj, hI] at z; cases z
    have T₂ : Trn f (σ.plus I) ρ h₁ (σ.plus I) ρ h₂ := k₂.trn
    refine codeP_forLoop (fun c s' => ∃ (k : Nat) (t : τ) (σ' : Sp) (h' : Heap) (tk' : Nat), s' = { s with heap := h', toks := tk' } ∧ k ≤ items.length ∧ c = items.length - k ∧ J k t ∧ St g f σ' (R t) h' ∧ Trn f (σ.plus I) ρ h₁ σ' (R t) h' ∧ ¬ OwnA σ' (R t) I ∧ Stt k h') ?_ items.length
      ⟨0, t0, σ.plus I, h₂, tk, rfl, Nat.zero_le _, rfl, j0, S₂.weak h0, T₂.trans (h0.trn _ _), fun m => e4 (h0.ownA m), st0⟩
    rintro c s' ⟨k, t, σ', h', tk', rfl, hk, rfl, hJ, S', T', nI, st'⟩
    have hYI : σ'.Y I := by rw [T'.Y]; exact .inr rfl
    have off : ∀ b, b = I → b ∉ f.fs ∧ ¬ OwnA σ' (R t) b ∧ f.hE.get? b = none ∧ g.H0.get? b = none := fun b z => by subst z; exact ⟨e3, nI, e1, e2⟩
    have tick : ∀ {h₃ : Heap}, (∀ b o, b ≠ I → h'.get? b = some o → h₃.get? b = some o) → Trn f (σ.plus I) ρ h₁ σ' (R t) h₃ := fun {h₃} kp =>
      ⟨fun b o e n1 n2 => kp b o (fun z => by rw [z, hI] at e; cases e) (T'.keep b o e n1 n2), fun b o e m => let ⟨o', z⟩ := T'.frames b o e m; ⟨o', kp b o' (fun z => e3 (z ▸ m)) z⟩, T'.own, T'.Y⟩
    have backT : ∀ {ρ'' : En} {σ'' : Sp} {h'' : Heap}, Trn f (σ.plus I) ρ h₁ σ'' ρ'' h'' → Trn f σ ρ s.heap ⟨σ.Y, σ''.α⟩ ρ'' h'' := fun {ρ'' σ'' h''} T'' => by
      refine ⟨fun b o e n1 n2 => T''.keep b o ((k₁ b o e).1 n1) n1 (fun ⟨j, z, z'⟩ => n2 ⟨j, z, z'⟩), fun b o e m => let ⟨_, z⟩ := (k₁ b o e).2; T''.frames b _ z m, fun b m => ?_, rfl⟩
      rcases T''.own b m with ⟨j, z, z'⟩ | m
      · exact .inl ⟨j, z, z'⟩
      · right
        cases z : s.heap.get? b with
        | none => rfl
        | some o => obtain ⟨_, z'⟩ := (k₁ b o z).2; rw [m] at z'; cases z'
    have back : ∀ {ρ'' : En} {σ'' : Sp} {h'' : Heap}, St g f σ'' ρ'' h'' → Trn f (σ.plus I) ρ h₁ σ'' ρ'' h'' → St g f ⟨σ.Y, σ''.α⟩ ρ'' h'' ∧ Trn f σ ρ s.heap ⟨σ.Y, σ''.α⟩ ρ'' h'' := fun {ρ'' σ'' h''} S'' T'' => ⟨S''.minus T''.Y S.Yfs, backT T''⟩
    by_cases hlt : k < items.length
    · refine W.item k { s with heap := h', toks := tk' } _ _ hlt st' fun v h₃ tk₃ hPv st₃ hk₃ => ?_
      have keep₃ : ∀ b o, b ≠ I → h'.get? b = some o → h₃.get? b = some o := fun b o hb e => hk₃ b o (by simpa using hb) e
      have S₃ : St g f σ' (R t) h₃ := S'.tick ok hYI off keep₃ (exI _ _ st₃)
      have T₃ := tick keep₃
      have hd : items[k]? = some items[k] := List.getElem?_eq_getElem hlt
      have rv : Rep g.C h₃ (XOf f σ' (R t)) items[k] v := by
        refine (hP k v _ hPv hd).mono (fun b o e nx => T₃.keep b o e (fun m => nx (S₁.fsX b m)) fun m => nx (.inr (.inr m))) fun b m => ?_
        rcases m with m | m | m
        · rw [T'.Y] at m
          rcases m with m | m
          · exact .inl (.inl m)
          · exact .inr (m ▸ hI)
        · exact .inl (.inr (.inl m))
        · rcases T'.own b m with m | m
          · exact .inl (.inr (.inr m))
          · exact .inr m
      refine wpAny_assign_Name (store_sh (s := { s with heap := h₃, toks := tk₃ }) ok S₃ hx rv fun h₄ tk₄ S₄ T₄ => ?_)
      have nI₄ : ¬ OwnA σ' ((R t).set i (some (.sh items[k]))) I := fun m => by
        rcases T₄.own I m with m | m
        · exact nI m
        · obtain ⟨o, z⟩ := exI _ _ st₃
          have z' : ({ s with heap := h₃, toks := tk₃ } : Shared).heap.get? I = none := m
          rw [show ({ s with heap := h₃, toks := tk₃ } : Shared).heap = h₃ from rfl, z] at z'; cases z'
      have st₄ : Stt (k + 1) h₄ := W.frame _ _ _ st₃ fun b hb o e => by
        rcases hfp b hb with z | ⟨nx, o', z⟩
        · subst z; exact T₄.keep b o e e3 nI
        · refine T₄.keep b o e (fun m => nx (S₁.fsX b m)) fun m => ?_
          rcases T'.own b m with m | m
          · exact nx (.inr (.inr m))
          · rw [z] at m; cases m
      refine turn k t _ hd hJ σ' { s with heap := h₄, toks := tk₄ } _ _ S₄ (fun fl o h₅ tk₅ ho hok => ?_) fun c ρ' e' h₅ tk₅ ho _ => ho.elim
      have next : ∀ ρ' σ₅, (∃ t', J (k + 1) t' ∧ Weak ρ' (R t')) → St g f σ₅ ρ' h₅ → Trn f σ' ((R t).set i (some (.sh items[k]))) h₄ σ₅ ρ' h₅ →
          ∃ m, m < items.length - k ∧ ∃ (k' : Nat) (t' : τ) (σ' : Sp) (h' : Heap) (tk' : Nat), ({ s with heap := h₅, toks := tk₅ } : Shared) = { s with heap := h', toks := tk' } ∧ k' ≤ items.length ∧ m = items.length - k' ∧ J k' t' ∧ St g f σ' (R t') h' ∧ Trn f (σ.plus I) ρ h₁ σ' (R t') h' ∧ ¬ OwnA σ' (R t') I ∧ Stt k' h' := by
        rintro ρ' σ₅ ⟨t', hJ', w'⟩ S₅ T₅
        have nI₅ : ¬ OwnA σ₅ ρ' I := fun m => by
          rcases T₅.own I m with m | m
          · exact nI₄ m
          · obtain ⟨o, z⟩ := exI _ _ st₄; rw [z] at m; cases m
        refine ⟨items.length - (k + 1), Nat.sub_succ_lt_self _ _ hlt, k + 1, t', σ₅, h₅, tk₅, rfl, hlt, rfl, hJ', S₅.weak w', ((T₃.trans T₄).trans T₅).trans (w'.trn _ _), fun m => nI₅ (w'.ownA m), ?_⟩
        refine W.frame _ _ _ st₄ fun b hb o e => ?_
        rcases hfp b hb with z | ⟨nx, o', z⟩
        · subst z; exact T₅.keep b o e e3 nI₄
        · refine T₅.keep b o e (fun m => nx (S₁.fsX b m)) fun m => ?_
          rcases (T₃.trans T₄).own b m with m | m
          · exact nx (.inr (.inr m))
          · rw [z] at m; cases m
      cases o with
      | next ρ' => obtain ⟨rfl, σ₅, S₅, T₅⟩ := hok; exact next ρ' σ₅ ho S₅ T₅
      | cont ρ' => obtain ⟨rfl, σ₅, S₅, T₅⟩ := hok; exact next ρ' σ₅ ho S₅ T₅
      | brk ρ' =>
        obtain ⟨rfl, σ₅, S₅, T₅⟩ := hok
        obtain ⟨S₆, T₆⟩ := back S₅ ((T₃.trans T₄).trans T₅)
        exact q .next (.next ρ') h₅ tk₅ ho ⟨rfl, _, S₆, T₆⟩
      | ret d =>
        obtain ⟨u, rfl, c, kE, r⟩ := hok
        refine q (.ret u) (.ret d) h₅ tk₅ ho ⟨u, rfl, c, kE, r.weak fun b m => ?_⟩
        show σ'.Y b
        rw [T'.Y]; exact .inl m
      | exc _ _ => exact ho.elim
    · have hke : k = items.length := by omega
      subst hke
      refine W.done { s with heap := h', toks := tk' } _ _ st' fun h₃ tk₃ hk₃ => wpAny_execs_nil ?_
      have keep₃ : ∀ b o, b ≠ I → h'.get? b = some o → h₃.get? b = some o := fun b o hb e => hk₃ b o (by simpa using hb) e
      have nYI : ¬ σ.Y I := fun m => by
        obtain ⟨o, e⟩ := S₁.Yex I m; rw [hI] at e; cases e
      have S₄ : St g f ⟨σ.Y, σ'.α⟩ (R t) h₃ := S'.tickAny ok hYI (fun b m => by rw [T'.Y]; exact .inl m) S.Yfs off keep₃ fun m => (nYI m).elim
      have T₄ := backT (tick keep₃)
      exact q .next (.next (R t)) h₃ tk₃ (done t hJ) ⟨rfl, _, S₄, T₄⟩
  refine wpP_execs_cons (wpP_mono fin (fun fl s' h => ?_) fun _ _ h => h)
  cases fl <;> first | exact h | exact wpP_of (wpAny_execs_nil h)
theorem ExR.while {test : Expr} {body : List Stmt} {pos : Pos} {O : Out → Prop} {τ : Type} (ok : FmOk g f n) (R : τ → En) (J : τ → Prop) (μ : τ → Nat) (t0 : τ) (h0 : Weak ρ (R t0)) (j0 : J t0) (cond : τ → Bool)
    (tst : ∀ t, J t → Te g f (R t) test (cond t))
    (turn : ∀ t, J t → cond t = true → ExR g f (R t) body (TurnO (fun ρ' => ∃ t', J t' ∧ μ t' < μ t ∧ Weak ρ' (R t')) O))
    (done : ∀ t, J t → cond t = false → O (.next (R t))) : ExR g f ρ [.While test body [] pos] O := fun σ s Q E S q ex => by
  have fin : wpP (model g.prog g.w) f.A (exec (.While test body [] pos) f.env) Q E s := by
    refine wpP_While ?_
    refine codeP_whileLoop (fun c s' => ∃ (t : τ) (σ' : Sp) (h' : Heap) (tk' : Nat), s' = { s with heap := h', toks := tk' } ∧ c = μ t ∧ J t ∧ St g f σ' (R t) h' ∧ Trn f σ ρ s.heap σ' (R t) h') ?_ (μ t0)
      ⟨t0, σ, s.heap, s.toks, rfl, rfl, j0, S.weak h0, h0.trn _ _⟩
    rintro c s' ⟨t, σ', h', tk', rfl, rfl, hJ, S', T'⟩
    refine wpP_of (tst t hJ σ' { s with heap := h', toks := tk' } _ _ S' fun h₂ tk₂ k₂ => ?_)
    have S₂ := S'.mono ok k₂
    have T₂ : Trn f σ ρ s.heap σ' (R t) h₂ := T'.trans k₂.trn
    cases hc : cond t with
    | true =>
      simp only [if_true]
      refine turn t hJ hc σ' { s with heap := h₂, toks := tk₂ } _ _ S₂ (fun fl o h₃ tk₃ ho hok => ?_) fun c ρ' e' h₃ tk₃ ho _ => ho.elim
      have next : ∀ ρ' σ₃, (∃ t', J t' ∧ μ t' < μ t ∧ Weak ρ' (R t')) → St g f σ₃ ρ' h₃ → Trn f σ' (R t) h₂ σ₃ ρ' h₃ →
          ∃ m, m < μ t ∧ ∃ (t : τ) (σ' : Sp) (h' : Heap) (tk' : Nat), ({ s with heap := h₃, toks := tk₃ } : Shared) = { s with heap := h', toks := tk' } ∧ m = μ t ∧ J t ∧ St g f σ' (R t) h' ∧ Trn f σ ρ s.heap σ' (R t) h' := by
        rintro ρ' σ₃ ⟨t', hJ', hm, w'⟩ S₃ T₃
        exact ⟨μ t', hm, t', σ₃, h₃, tk₃, rfl, rfl, hJ', S₃.weak w', (T₂.trans T₃).trans (w'.trn _ _)⟩
      cases o with
      | next ρ' => obtain ⟨rfl, σ₃, S₃, T₃⟩ := hok; exact next ρ' σ₃ ho S₃ T₃
      | cont ρ' => obtain ⟨rfl, σ₃, S₃, T₃⟩ := hok; exact next ρ' σ₃ ho S₃ T₃
      | brk ρ' =>
        obtain ⟨rfl, σ₃, S₃, T₃⟩ := hok
        exact q .next (.next ρ') h₃ tk₃ ho ⟨rfl, _, S₃, T₂.trans T₃⟩
      | ret d =>
        obtain ⟨u, rfl, c, kE, r⟩ := hok
        exact q (.ret u) (.ret d) h₃ tk₃ ho ⟨u, rfl, c, kE, by rw [← T₂.Y]; exact r⟩
      | exc _ _ => exact ho.elim
    | false =>
      simp only [Bool.false_eq_true, if_false]
      exact wpP_of (wpAny_execs_nil (q .next (.next (R t)) h₂ tk₂ (done t hJ hc) ⟨rfl, _, S₂, T₂⟩))
  refine wpP_execs_cons (wpP_mono fin (fun fl s' h => ?_) fun _ _ h => h)
  cases fl <;> first | exact h | exact wpP_of (wpAny_execs_nil h)
theorem ExR.try {body : List Stmt} {h0 : ExceptHandler} {hs : List ExceptHandler} {pos : Pos} {rest : List Stmt} {O₁ O : Out → Prop} (ok : FmOk g f n) (hst : f.stack = f.env :: f.outer) (hfr : f.env.frame = some f.L) (hb : ExR g f ρ body O₁)
    (hn : ∀ ρ', O₁ (.next ρ') → ExR g f ρ' rest O) (ho : ∀ o, O₁ o → (∀ ρ', o ≠ .next ρ') → (∀ c ρ', o ≠ .exc c ρ') → O o)
    (hc : ∀ c ρ', O₁ (.exc c ρ') → ∃ k, Catch g f c (h0 :: hs) k ∧ O (.ret (.int k))) : ExR g f ρ (.Try body (h0 :: hs) [] [] pos :: rest) O := by
  refine ExR.seq (O₁ := fun o => (O₁ o ∧ ∀ c ρ', o ≠ .exc c ρ') ∨ ((∃ k, o = .ret (.int k)) ∧ O o)) ?_ (fun ρ' h => ?_) (fun o h hnn => ?_)
  · intro σ s Q E S q ex
    have core : wpP (model g.prog g.w) f.A (exec (.Try body (h0 :: hs) [] [] pos) f.env) Q E s := by
      refine wpP_Try_except (hb σ s _ _ S (fun fl o h' tk o1 ok1 => ?_) (fun c ρ' e h' tk o1 x => ?_))
      · cases o with
        | next ρ' =>
          obtain ⟨rfl, z⟩ := ok1
          exact wpAny_execs_nil (q .next (.next ρ') h' tk (.inl ⟨o1, fun _ _ e => nomatch e⟩) ⟨rfl, z⟩)
        | brk ρ' => obtain ⟨rfl, z⟩ := ok1; exact q _ (.brk ρ') h' tk (.inl ⟨o1, fun _ _ e => nomatch e⟩) ⟨rfl, z⟩
        | cont ρ' => obtain ⟨rfl, z⟩ := ok1; exact q _ (.cont ρ') h' tk (.inl ⟨o1, fun _ _ e => nomatch e⟩) ⟨rfl, z⟩
        | ret d => obtain ⟨v, rfl, z⟩ := ok1; exact q _ (.ret d) h' tk (.inl ⟨o1, fun _ _ e => nomatch e⟩) ⟨v, rfl, z⟩
        | exc _ _ => exact ok1.elim
      · obtain ⟨k, hcat, hO⟩ := hc c ρ' o1
        obtain ⟨σ', h₁, S', T', hx⟩ := x
        have hff : h₁.FunFrames g.H0 f.stack := by
          obtain ⟨m, ⟨oL, es, ep, hL, hd, _⟩, _⟩ := S'.ex
          exact ok.stk h₁ ⟨oL, hL, fun vs q => by rw [hd] at q; cases q⟩ S'.cs.ff
        have fr' : f.A.frames = some (f.env :: f.outer) := hst ▸ ok.fr
        have fin : ∀ (h₅ : Heap) (a0 : Value), Heap.FlyingW (hideAll h₁ f.fs) f.stack e c a0 h₅ → h₁.UpToSlots h₅ → wpAny (model g.prog g.w) f.A (handleBy (.ref e) f.env (h0 :: hs)) Q E { s with heap := h₅, toks := tk } := fun h₅ a0 fl up =>
          catch_run ok S' hcat _ Q E fl up fun h'' t tk' kf => by
            have S'' := S'.mono ok kf
            refine q (.ret (.int k t)) (.ret (.int k)) h'' tk' (.inr ⟨⟨k, rfl⟩, hO⟩) ⟨.int k t, rfl, ?_⟩
            have := ret_ok (d := .int k) (v := .int k t) S'' (by simp only [Rep]; exact ⟨t, rfl⟩)
            rw [← T'.Y]; exact this
        rcases hx with ⟨k₁, a0, fl⟩ | ⟨args, mk⟩
        · refine wpAny_looks_onW fr' hfr (hst ▸ fl) fun h₄ held up₄ => ?_
          refine wpAny_landsW held fun h₅ fl₅ up₅ => ?_
          exact fin h₅ a0 (hst.symm ▸ fl₅) (k₁.up.trans (up₄.trans up₅))
        · have hin : ∀ env ∈ f.stack, ∀ b, env.frame = some b → b ∈ f.fs := fun env he b hb => ok.sub b (List.mem_filterMap.mpr ⟨env, he, hb⟩)
          have hff' := funFrames_hide hff hin
          rw [hst] at hff'
          refine note_made fr' hfr (fun b o q => of_hideAll _ q) hff' mk fun h₄ t held up₄ => ?_
          refine wpAny_landsW held fun h₅ fl₅ up₅ => ?_
          exact fin h₅ _ (hst.symm ▸ fl₅) ((Heap.UpToSlots.of_keeps mk.keeps).trans (up₄.trans up₅))
    exact wpP_execs_cons (wpP_mono core (fun fl s' z => by cases fl <;> first | exact wpP_of (wpAny_execs_nil z) | exact z) fun _ _ z => z)
  · rcases h with ⟨h, _⟩ | ⟨⟨k, hk⟩, _⟩
    · exact hn ρ' h
    · cases hk
  · rcases h with ⟨h, h2⟩ | ⟨_, h⟩
    · exact ho o h hnn h2
    · exact h
end
theorem Fn.up {g : GI} {n : Nat} {fv : Value} {ds : List V} {r : Res} (h : Fn g n fv ds r) : FnR g n fv ds r := fun A l Y vs s R a b c d e f1 f2 f3 f4 q ex => codeP_of (h A l Y vs s R a b c d e f1 f2 f3 f4 q ex)
theorem FnR.introT {g : GI} {n : Nat} {fa : Addr} {ds dx : List V} {r : Res} {names loc : List Str} {xs : List Value} {name qual : Str} {params : Arguments} {body : List Stmt} {scope : Scope} {dV kV doc pm cdv ct oc : Value} {an od : Option Addr} {osl : Array (Option Value)}
    (ho : g.K.lookup fa = some ⟨oc, od, .func (fnOf name qual params body scope dV kV doc pm an cdv ct), osl⟩) (hcd : codeIn g.K cdv qual = true)
    (hbind : ∀ (vs : List Value) (s : Shared), vs.length = ds.length → g.K.In s.heap → BindsTo s (fnOf name qual params body scope dV kV doc pm an cdv ct) ⟨vs, []⟩ (names.zip (vs ++ xs)))
    (hxs : ∀ h X, RepL g.C h X dx xs)
    (hn : (names ++ loc).Nodup) (hlen : names.length = ds.length + dx.length) (hloc : ∀ y ∈ names ++ loc, scope.names.lookup y = some .local) (hdb : ∀ x ∈ names ++ loc, (x == ("__debug__" : Str)) = false)
    (hb : ∀ f : Fm, FmOk g f n → f.env.scope = scope → f.xs = names ++ loc → f.ys = [] → f.env.cells = [] → f.stack = f.env :: f.outer → f.env.frame = some f.L → ExR g f (shEn loc.length (ds ++ dx)) body (RetO r))
    (hco : scope.isCoroutine = false := by rfl) (hgen : scope.isGenerator = false := by rfl) (hk : scope.kind = .function := by rfl) (hcell : ∀ x ∈ scope.names, x.2 ≠ .cell := by decide) :
    FnR g (n + 1) (.ref fa) ds r := by
  intro A l Y vs s R ok hA hh room cs hY hYex hY0 hr q ex
  have X : g.K.In s.heap := ok.X.keeps cs.keep
  have hvl : vs.length = ds.length := RepL.length hr
  have hxl : xs.length = dx.length := RepL.length (hxs s.heap (fun _ => False))
  have hL : s.heap.get? s.heap.objs.size = none := none_of_ge (Nat.le_refl _)
  have hL0 : g.H0.get? s.heap.objs.size = none := by
    cases z : g.H0.get? s.heap.objs.size with
    | none => rfl
    | some o => have := cs.keep _ _ z; rw [hL] at this; cases this
  have hnn : names.Nodup := (List.nodup_append.mp hn).1
  refine codeP_call_def (fd := fnOf name qual params body scope dV kV doc pm an cdv ct) (body := body) (binds := names.zip (vs ++ xs)) (by have := room.1; omega) (X _ _ ho) rfl
    (ok.T.nolimit.keeps cs.keep) (codeRec_of X hcd) rfl (hbind vs s hvl X) hcell (fun y hy => hloc _ (List.mem_append_left _ (List.of_mem_zip (a := y.1) (b := y.2) hy).1)) (fun h₁ hns hk₁ => ?_) hco hgen hk
  let f : Fm := ⟨envOf qual scope s.heap.objs.size fa cdv, A.deeper (envOf qual scope s.heap.objs.size fa cdv), envOf qual scope s.heap.objs.size fa cdv :: l, l, s.heap, names ++ loc, []⟩
  have fok : FmOk g f n := {
    G := ok
    fr := Around.frames_deeper hA
    hd := hh
    room := ⟨by show A.depth + 1 + 3 * n < recursionLimit; have := room.1; omega, by show A.units + 3 + 8 * n < cLine; have := room.2; omega⟩
    kind := hk
    eG := rfl
    eB := rfl
    stk := fun h ⟨o, e, hd⟩ ff => ⟨by show scope.kind ≠ .module; rw [hk]; decide, ⟨_, o, rfl, hL0, e, hd⟩, ff⟩
    sub := fun b hb => hb
    big := ok.big X
    newL := hL
    newL0 := hL0
    nodup := by show (names ++ loc ++ []).Nodup; rw [List.append_nil]; exact hn
    loc := hloc
    cel := fun x hx => nomatch hx
    ndb := by show ∀ x ∈ names ++ loc ++ [], _; rw [List.append_nil]; exact hdb
    csE := cs }
  have S : St g f ⟨Y, fun _ => 0⟩ (shEn loc.length (ds ++ dx)) h₁ := by
    refine ⟨⟨_, hns, ?_⟩, cs.mono (fs := []) (fun b hb => nomatch hb) (Kf.of_keeps hk₁), Kf.of_keeps hk₁, fun i j hi => (shEn_own hi).elim, fun i hi => (shEn_own hi).elim, by simp [shEn, f, hlen]; omega, hY, fun b hb => let ⟨o, e⟩ := hYex b hb; ⟨o, hk₁ b o e⟩, fun i hi => (shEn_own hi).elim, hY0⟩
    intro i x b hx hb
    obtain ⟨d, hd, rfl⟩ := shEn_get hb
    have hi : i < names.length := by
      rw [hlen, ← List.length_append]
      exact (List.getElem?_eq_some_iff.mp hd).1
    have hx' : names[i]? = some x := by
      rw [← hx]; show _ = (names ++ loc ++ [])[i]?
      rw [List.append_nil]; exact (List.getElem?_append_left hi).symm
    have hX : ∀ b, XOf f ⟨Y, fun _ => 0⟩ (shEn loc.length (ds ++ dx)) b → Y b ∨ b = s.heap.objs.size := fun b hb => by
      rcases hb with hb | hb | ⟨i, hi, _⟩
      · exact .inl hb
      · exact .inr hb
      · exact (shEn_own hi).elim
    have rr : RepL g.C h₁ (XOf f ⟨Y, fun _ => 0⟩ (shEn loc.length (ds ++ dx))) (ds ++ dx) (vs ++ xs) := (repl_entry hk₁ hL hX hr).append (hxs _ _)
    obtain ⟨v, ev, rv⟩ := rr.get hd
    exact ⟨v, lookup_zip hnn hx' ev, rv⟩
  refine hb f fok rfl rfl rfl rfl rfl rfl _ _ _ _ S (fun fl o h' tk ho hok => ?_) (fun c ρ' e h' tk ho hx => ?_)
  · cases r with
    | exc c => obtain ⟨ρ', rfl⟩ := ho; exact hok.elim
    | ok d =>
      rcases ho with rfl | ⟨rfl, ρ', rfl⟩
      · obtain ⟨v, rfl, c, k, rep⟩ := hok
        exact q v d h' tk rfl k rep
      · obtain ⟨rfl, σ, S', _⟩ := hok
        exact q .none .none h' tk rfl S'.kE (by simp only [Rep])
  · cases r with
    | ok d =>
      rcases ho with ho | ⟨_, _, ho⟩ <;> cases ho
    | exc c' =>
      obtain ⟨ρ'', ho⟩ := ho
      injection ho with e1 e2; subst e1 e2
      exact leave_exc (s' := { heap := h', gens := s.gens, drawn := s.drawn, toks := tk, os := s.os }) fok rfl rfl hx fun h'' a0 k fl => ex c e a0 h'' tk rfl k fl
theorem FnR.intro {g : GI} {n : Nat} {fa : Addr} {ds dx : List V} {r : Res} {names loc : List Str} {xs : List Value} {name qual : Str} {params : Arguments} {body : List Stmt} {scope : Scope} {dV kV doc pm cdv ct oc : Value} {an od : Option Addr} {osl : Array (Option Value)}
    (ho : g.K.lookup fa = some ⟨oc, od, .func (fnOf name qual params body scope dV kV doc pm an cdv ct), osl⟩) (hcd : codeIn g.K cdv qual = true)
    (hbind : ∀ (vs : List Value) (s : Shared), vs.length = ds.length → g.K.In s.heap → BindsTo s (fnOf name qual params body scope dV kV doc pm an cdv ct) ⟨vs, []⟩ (names.zip (vs ++ xs)))
    (hxs : ∀ h X, RepL g.C h X dx xs)
    (hn : (names ++ loc).Nodup) (hlen : names.length = ds.length + dx.length) (hloc : ∀ y ∈ names ++ loc, scope.names.lookup y = some .local) (hdb : ∀ x ∈ names ++ loc, (x == ("__debug__" : Str)) = false)
    (hb : ∀ f : Fm, FmOk g f n → f.env.scope = scope → f.xs = names ++ loc → f.ys = [] → f.env.cells = [] → ExR g f (shEn loc.length (ds ++ dx)) body (RetO r))
    (hco : scope.isCoroutine = false := by rfl) (hgen : scope.isGenerator = false := by rfl) (hk : scope.kind = .function := by rfl) (hcell : ∀ x ∈ scope.names, x.2 ≠ .cell := by decide) :
    FnR g (n + 1) (.ref fa) ds r :=
  FnR.introT ho hcd hbind hxs hn hlen hloc hdb (fun f a b c d e _ _ => hb f a b c d e) hco hgen hk hcell
@[reducible] def fmM (f : Fm) (sc : Scope) (xs ys : List Str) : Fm := { f with env := { f.env with scope := sc, cells := [] }, xs := xs, ys := ys }
@[reducible] def fmC (f : Fm) (sc : Scope) (xs ys : List Str) : Fm := { f with env := { f.env with scope := sc }, xs := xs, ys := ys }
theorem fm_eq {f : Fm} {sc : Scope} {xs ys : List Str} (h1 : f.env.scope = sc) (h2 : f.xs = xs) (h3 : f.ys = ys) (h4 : f.env.cells = []) : fmM f sc xs ys = f := by
  subst h1 h2 h3
  unfold fmM; rw [← h4]
theorem fc_eq {f : Fm} {sc : Scope} {xs ys : List Str} (h1 : f.env.scope = sc) (h2 : f.xs = xs) (h3 : f.ys = ys) : fmC f sc xs ys = f := by
  subst h1 h2 h3; rfl
theorem FnR.introTM {g : GI} {n : Nat} {fa : Addr} {ds dx : List V} {r : Res} {names loc : List Str} {xs : List Value} {name qual : Str} {params : Arguments} {body : List Stmt} {scope : Scope} {dV kV doc pm cdv ct oc : Value} {an od : Option Addr} {osl : Array (Option Value)}
    (ho : g.K.lookup fa = some ⟨oc, od, .func (fnOf name qual params body scope dV kV doc pm an cdv ct), osl⟩) (hcd : codeIn g.K cdv qual = true)
    (hbind : ∀ (vs : List Value) (s : Shared), vs.length = ds.length → g.K.In s.heap → BindsTo s (fnOf name qual params body scope dV kV doc pm an cdv ct) ⟨vs, []⟩ (names.zip (vs ++ xs)))
    (hxs : ∀ h X, RepL g.C h X dx xs)
    (hn : (names ++ loc).Nodup) (hlen : names.length = ds.length + dx.length) (hloc : ∀ y ∈ names ++ loc, scope.names.lookup y = some .local) (hdb : ∀ x ∈ names ++ loc, (x == ("__debug__" : Str)) = false)
    (hb : ∀ f : Fm, FmOk g (fmM f scope (names ++ loc) []) n → f.stack = (fmM f scope (names ++ loc) []).env :: f.outer → f.env.frame = some f.L → ExR g (fmM f scope (names ++ loc) []) (shEn loc.length (ds ++ dx)) body (RetO r))
    (hco : scope.isCoroutine = false := by rfl) (hgen : scope.isGenerator = false := by rfl) (hk : scope.kind = .function := by rfl) (hcell : ∀ x ∈ scope.names, x.2 ≠ .cell := by decide) :
    FnR g (n + 1) (.ref fa) ds r :=
  FnR.introT ho hcd hbind hxs hn hlen hloc hdb (fun f a b c d e h1 h2 => by
    have q := fm_eq b c d e
    exact q ▸ hb f (q.symm ▸ a) (q.symm ▸ h1) h2) hco hgen hk hcell
theorem FnR.introM {g : GI} {n : Nat} {fa : Addr} {ds dx : List V} {r : Res} {names loc : List Str} {xs : List Value} {name qual : Str} {params : Arguments} {body : List Stmt} {scope : Scope} {dV kV doc pm cdv ct oc : Value} {an od : Option Addr} {osl : Array (Option Value)}
    (ho : g.K.lookup fa = some ⟨oc, od, .func (fnOf name qual params body scope dV kV doc pm an cdv ct), osl⟩) (hcd : codeIn g.K cdv qual = true)
    (hbind : ∀ (vs : List Value) (s : Shared), vs.length = ds.length → g.K.In s.heap → BindsTo s (fnOf name qual params body scope dV kV doc pm an cdv ct) ⟨vs, []⟩ (names.zip (vs ++ xs)))
    (hxs : ∀ h X, RepL g.C h X dx xs)
    (hn : (names ++ loc).Nodup) (hlen : names.length = ds.length + dx.length) (hloc : ∀ y ∈ names ++ loc, scope.names.lookup y = some .local) (hdb : ∀ x ∈ names ++ loc, (x == ("__debug__" : Str)) = false)
    (hb : ∀ f : Fm, FmOk g (fmM f scope (names ++ loc) []) n → ExR g (fmM f scope (names ++ loc) []) (shEn loc.length (ds ++ dx)) body (RetO r))
    (hco : scope.isCoroutine = false := by rfl) (hgen : scope.isGenerator = false := by rfl) (hk : scope.kind = .function := by rfl) (hcell : ∀ x ∈ scope.names, x.2 ≠ .cell := by decide) :
    FnR g (n + 1) (.ref fa) ds r :=
  FnR.introTM ho hcd hbind hxs hn hlen hloc hdb (fun f a _ _ => hb f a) hco hgen hk hcell
theorem Fn.introM {g : GI} {n : Nat} {fa : Addr} {ds dx : List V} {r : Res} {names loc : List Str} {xs : List Value} {name qual : Str} {params : Arguments} {body : List Stmt} {scope : Scope} {dV kV doc pm cdv ct oc : Value} {an od : Option Addr} {osl : Array (Option Value)}
    (ho : g.K.lookup fa = some ⟨oc, od, .func (fnOf name qual params body scope dV kV doc pm an cdv ct), osl⟩) (hcd : codeIn g.K cdv qual = true)
    (hbind : ∀ (vs : List Value) (s : Shared), vs.length = ds.length → g.K.In s.heap → BindsTo s (fnOf name qual params body scope dV kV doc pm an cdv ct) ⟨vs, []⟩ (names.zip (vs ++ xs)))
    (hxs : ∀ h X, RepL g.C h X dx xs)
    (hn : (names ++ loc).Nodup) (hlen : names.length = ds.length + dx.length) (hloc : ∀ y ∈ names ++ loc, scope.names.lookup y = some .local) (hdb : ∀ x ∈ names ++ loc, (x == ("__debug__" : Str)) = false)
    (hb : ∀ f : Fm, FmOk g (fmM f scope (names ++ loc) []) n → Ex g (fmM f scope (names ++ loc) []) (shEn loc.length (ds ++ dx)) body (RetO r))
    (hco : scope.isCoroutine = false := by rfl) (hgen : scope.isGenerator = false := by rfl) (hk : scope.kind = .function := by rfl) (hcell : ∀ x ∈ scope.names, x.2 ≠ .cell := by decide) :
    Fn g (n + 1) (.ref fa) ds r :=
  Fn.intro ho hcd hbind hxs hn hlen hloc hdb (fun f a b c d e => fm_eq b c d e ▸ hb f ((fm_eq b c d e).symm ▸ a)) hco hgen hk hcell
theorem FnA.introCM {g : GI} {n : Nat} {fa : Addr} {bs : List B} {r : Res} {names loc : List Str} {y : Str} {name qual : Str} {params : Arguments} {body : List Stmt} {scope : Scope} {dV kV doc pm cdv ct oc : Value} {an od : Option Addr} {osl : Array (Option Value)}
    (ho : g.K.lookup fa = some ⟨oc, od, .func (fnOf name qual params body scope dV kV doc pm an cdv ct), osl⟩) (hcd : codeIn g.K cdv qual = true)
    (hbind : ∀ (vs : List Value), vs.length = bs.length → bindArgs (fnOf name qual params body scope dV kV doc pm an cdv ct) ⟨vs, []⟩ = pure (names.zip vs))
    (hn : (names ++ loc ++ [y]).Nodup) (hlen : names.length = bs.length) (hloc : ∀ z ∈ names ++ loc, scope.names.lookup z = some .local) (hcel : scope.names.lookup y = some .cell) (hdb : ∀ x ∈ names ++ loc ++ [y], (x == ("__debug__" : Str)) = false)
    (hcells : ∀ k, ∃ c, (cellsFrom k scope.names []).lookup y = some c)
    (hb : ∀ f : Fm, FmOk g (fmC f scope (names ++ loc) [y]) n → (∃ c, f.env.cells.lookup y = some c) → Ex g (fmC f scope (names ++ loc) [y]) (ceEn loc.length bs) body (RetO r))
    (hco : scope.isCoroutine = false := by rfl) (hgen : scope.isGenerator = false := by rfl) (hk : scope.kind = .function := by rfl) :
    FnA g (n + 1) (.ref fa) bs r :=
  FnA.introC ho hcd hbind hn hlen hloc hcel hdb hcells (fun f a b c d e => fc_eq b c d ▸ hb f ((fc_eq b c d).symm ▸ a) e) hco hgen hk
section
variable {g : GI} {f : Fm} {n : Nat} {ρ : En}
theorem CompOk.plainM {x : Str} {iter elt : Expr} {scope : Scope} {items es : List V} (sc : CompS f scope x []) (hfree : ∀ y ∈ scope.names, y.2 ≠ .free) (hi : ItSrc g f ρ iter items) (hlen : items.length ≤ sizeLine) (hes : es.length = items.length)
    (he : ∀ (k : Nat) (d e : V), items[k]? = some d → es[k]? = some e → ∀ f' : Fm, FmOk g (fmC f' (relabel scope f.env) [x] []) n → Ev g (fmC f' (relabel scope f.env) [x] []) [some (.sh d)] elt (.ok e))
    (hs : ∀ x, foldedSetIterable iter f.env x = pure x := by intro _; rfl) : CompOk g f n ρ x iter elt scope es :=
  CompOk.plain sc hfree hi hlen hes (fun k d e h1 h2 f' a b c d' => fc_eq b c d' ▸ he k d e h1 h2 f' ((fc_eq b c d').symm ▸ a)) hs
theorem CompOk.cellM {x y : Str} {iter elt : Expr} {scope : Scope} {items es : List V} {d₀ : V} (ok : FmOk g f n) (i : Nat) (hy : f.nm[i]? = some y) (hym : y ∈ f.ys) (hm : ρ[i]? = some (some (.ce (some d₀)))) (sc : CompS f scope x [y])
    (hcl : ∀ c, f.env.cells.lookup y = some c → closureFor scope f.env = pure [(y, c)])
    (hi : ItSrc g f ρ iter items) (hlen : items.length ≤ sizeLine) (hes : es.length = items.length)
    (he : ∀ (k : Nat) (d e : V), items[k]? = some d → es[k]? = some e → ∀ f' : Fm, FmOk g (fmC f' (relabel scope f.env) [x] [y]) n → Ev g (fmC f' (relabel scope f.env) [x] [y]) [some (.sh d), some (.bc d₀)] elt (.ok e))
    (hex : ∃ c, f.env.cells.lookup y = some c)
    (hs : ∀ x, foldedSetIterable iter f.env x = pure x := by intro _; rfl) : CompOk g f n ρ x iter elt scope es :=
  CompOk.cell ok i hy hym hm sc hcl hi hlen hes (fun k d e h1 h2 f' a b c d' => fc_eq b c d' ▸ he k d e h1 h2 f' ((fc_eq b c d').symm ▸ a)) hex hs
end
section
variable {g : GI} {f : Fm} {n m : Nat} {ρ : En}
theorem St.ba {σ : Sp} {h : Heap} {i : Nat} {b : List UInt8} (S : St g f σ ρ h) (hb : ρ[i]? = some (some (.ba b))) : h.get? (σ.α i) = some (baObj b.toArray) ∧ b.length ≤ sizeLine := by
  obtain ⟨m, _, hv⟩ := S.ex
  have hl : i < f.nm.length := Nat.lt_of_lt_of_le (List.getElem?_eq_some_iff.mp hb).1 S.len
  obtain ⟨_, e1, e2⟩ := hv i _ _ (List.getElem?_eq_getElem hl) hb
  exact ⟨e2, e1⟩
theorem ba_size {b : List UInt8} (h : b.length ≤ sizeLine) : b.toArray.size ≤ sizeLine := by rw [List.size_toArray]; exact h
theorem EvOR.ba {np pos : Pos} {e : Expr} {b : List UInt8} (ok : FmOk g f n) (hx : f.env.kindOf "bytearray" = some .globalImplicit) (gv : GV g "bytearray" (.type "bytearray")) (he : Ev g f ρ e (.ok (.bytes b)))
    (hh : starEach [e] f.env = [(false, eval e f.env)] := by rfl) : EvOR g f ρ (.Call (.Name "bytearray" np) [e] [] pos) (.ba b) := fun σ s Q E S q => by
  refine callNameR (gv f n np s _ _ ok hx S.cs ?_)
  refine callR_evs (dfirst := []) (first := []) (ds := [.bytes b]) ok kept_type S (by simp only [RepL]) hh rfl (EvsR.cons ok he.up (Evs.up Evs.nil) hh) fun vs h' tk k S' rr => ?_
  simp only [List.nil_append, RepL, Rep] at rr
  obtain ⟨v, r, rfl, ⟨⟨t, rfl⟩, hl⟩, rfl⟩ := rr
  refine call_ba (s := { s with heap := h', toks := tk }) (ba_size hl) fun h'' e1 e2 => ?_
  have hn : h'.get? h'.objs.size = none := none_of_ge (Nat.le_refl _)
  have hn0 : s.heap.get? h'.objs.size = none := by
    cases z : s.heap.get? h'.objs.size with
    | none => rfl
    | some o => obtain ⟨_, q⟩ := (k _ o z).2; rw [hn] at q; cases q
  exact q _ h'' tk (k.trans (Kf.of_keeps e2)) hn0 ⟨rfl, hl, e1⟩
theorem Ev.lenBa {x : Str} {i : Nat} {b : List UInt8} {np np' pos : Pos} (ok : FmOk g f n) (hx : f.env.kindOf "len" = some .globalImplicit) (gv : GV g "len" (.builtin "len")) (hxs : f.xs[i]? = some x) (hb : ρ[i]? = some (some (.ba b))) :
    Ev g f ρ (.Call (.Name "len" np) [.Name x np'] [] pos) (.ok (.int b.length)) := fun σ s Q E S q ex => by
  refine wpAny_Call_ofName (gv f n np s _ _ ok hx S.cs ?_)
  refine callWith_of (P := fun h => g.K.In h) rfl (kept_looks kept_builtin) ?_
  refine evalArgs_plain (x := eval (.Name x np') f.env) (rest := backTo pos []) (spliced_cons (ownName ok S hxs hb rfl (spliced_nil ?_)))
  refine ⟨ok.G.X.keeps S.cs.keep, ?_⟩
  obtain ⟨ha, hl⟩ := S.ba hb
  refine len_ba (a := σ.α i) (b := b.toArray) ha (ba_size hl) fun t k => ?_
  exact q _ _ s.heap k rfl (Kf.refl _ _) (by simp only [Rep]; exact ⟨t, by simp⟩)
theorem Ev.subBa {x : Str} {j : Nat} {b : List UInt8} {np pos : Pos} {e : Expr} {i : Int} {c : UInt8} (ok : FmOk g f n) (hxs : f.xs[j]? = some x) (hb : ρ[j]? = some (some (.ba b))) (he : Ev g f ρ e (.ok (.int i))) (hd : b[vidx b.length i]? = some c) (h1 : -(b.length : Int) ≤ i)
    (hs : ∀ o i, subscripted e false o i = operate [o, i] (getItem o i) := by intro _ _; rfl) : Ev g f ρ (.Subscript (.Name x np) e pos) (.ok (.int (c.toNat : Int))) := fun σ s Q E S q ex => by
  refine Subscript_ (ownName ok S hxs hb rfl ?_)
  refine he σ s _ _ S (fun u d' h₂ t₂ ed k₂ r₂ => ?_) fun c e' h' tk ec => nomatch ec
  injection ed with ed; subst ed
  simp only [Rep] at r₂
  obtain ⟨t, rfl⟩ := r₂
  obtain ⟨ha, hl⟩ := (S.mono ok k₂).ba hb
  have hl' : b.length ≤ 16777216 := hl
  have hi : vidx b.length i < b.length := (List.getElem?_eq_some_iff.mp hd).1
  refine tail_any (s := { s with heap := h₂, toks := t₂ }) (T := "bytearray") ⟨_, ha, rfl⟩ ba_slot_get.lookup ?_ (hs _ _)
  refine get_ba (s := { s with heap := h₂, toks := t₂ }) (c := c) ha (fits_small (by omega) (by unfold vidx at hi; split at hi <;> omega)) ?_ (q _ _ h₂ _ rfl k₂ (by simp only [Rep]; exact ⟨_, rfl⟩))
  rw [List.size_toArray, seqIdx hi h1]; simpa using hd
theorem Ex.storeBa {x : Str} {np sp pos : Pos} {ei e : Expr} {rest : List Stmt} {b : List UInt8} {i k : Int} {O : Out → Prop} (ok : FmOk g f n) (j : Nat) (hxs : f.xs[j]? = some x) (hb : ρ[j]? = some (some (.ba b))) (he : Ev g f ρ e (.ok (.int k))) (hi : Ev g f ρ ei (.ok (.int i)))
    (h0 : 0 ≤ k) (h2 : k < 256) (hr : vidx b.length i < b.length) (h1 : -(b.length : Int) ≤ i) (h : Ex g f (ρ.set j (some (.ba (b.set (vidx b.length i) k.toNat.toUInt8)))) rest O)
    (hs : swapsWith e (some (.Subscript (.Name x np) ei sp)) pos.line f.env = pure false := by rfl) : Ex g f ρ (.Assign [.Subscript (.Name x np) ei sp] e pos :: rest) O := fun σ s Q E S q ex => by
  refine wpAny_execs_cons (wpAny_Assign_Subscript (he σ s _ _ S (fun v d' h₁ t₁ ed k₁ r₁ => ?_) fun c e' h' tk ec => nomatch ec) hs)
  injection ed with ed; subst ed
  simp only [Rep] at r₁
  obtain ⟨tv, rfl⟩ := r₁
  have S₁ := S.mono ok k₁
  refine ownName (s := { s with heap := h₁, toks := t₁ }) ok S₁ hxs hb rfl ?_
  refine hi σ _ _ _ S₁ (fun u d' h₂ t₂ ed k₂ r₂ => ?_) fun c e' h' tk ec => nomatch ec
  injection ed with ed; subst ed
  simp only [Rep] at r₂
  obtain ⟨t, rfl⟩ := r₂
  have S₂ := S₁.mono ok k₂
  obtain ⟨ha, hl⟩ := S₂.ba hb
  have hl' : b.length ≤ 16777216 := hl
  refine set_ba (s := { s with heap := h₂, toks := t₂ }) (k := vidx b.length i) ha (ba_size hl) (fits_small (by omega) (by unfold vidx at hr; split at hr <;> omega)) (by rw [List.size_toArray]; exact seqIdx hr h1) h0 h2 fun h₃ e1 e2 => ?_
  obtain ⟨S₃, T₃⟩ := S₂.turn ok hb rfl (b' := .ba (b.set (vidx b.length i) k.toNat.toUInt8)) rfl e2 fun m₀ x₀ a₀ hv₀ ea => by
    subst ea
    exact ⟨hv₀.1, by rw [List.length_set]; exact hl, by rw [e1]; simp⟩
  exact Ex.after (σ := σ) (ρ := ρ) (s := s) h S₃ ((k₁.trans k₂).trn.trans T₃) q ex
theorem Ev.bytesBa {x : Str} {i : Nat} {b : List UInt8} {np np' pos : Pos} (ok : FmOk g f n) (hx : f.env.kindOf "bytes" = some .globalImplicit) (gv : GV g "bytes" (.type "bytes")) (hxs : f.xs[i]? = some x) (hb : ρ[i]? = some (some (.ba b))) :
    Ev g f ρ (.Call (.Name "bytes" np) [.Name x np'] [] pos) (.ok (.bytes b)) := fun σ s Q E S q ex => by
  refine wpAny_Call_ofName (gv f n np s _ _ ok hx S.cs ?_)
  refine callWith_of (P := fun h => g.K.In h) rfl (kept_looks kept_type) ?_
  refine evalArgs_plain (x := eval (.Name x np') f.env) (rest := backTo pos []) (spliced_cons (ownName ok S hxs hb rfl (spliced_nil ?_)))
  refine ⟨ok.G.X.keeps S.cs.keep, ?_⟩
  obtain ⟨ha, hl⟩ := S.ba hb
  exact bytes_ba (a := σ.α i) (b := b.toArray) ha (ba_size hl) fun t k => q _ _ s.heap k rfl (Kf.refl _ _) (by simp only [Rep]; exact ⟨⟨t, rfl⟩, hl⟩)
theorem Ev.bytesCut {x : Str} {i : Nat} {b : List UInt8} {np np' pos sp p : Pos} {e : Expr} {k : Int} (ok : FmOk g f n) (hx : f.env.kindOf "bytes" = some .globalImplicit) (gv : GV g "bytes" (.type "bytes")) (hxs : f.xs[i]? = some x) (hb : ρ[i]? = some (some (.ba b))) (he : Ev g f ρ e (.ok (.int k))) :
    Ev g f ρ (.Call (.Name "bytes" np) [.Subscript (.Name x np') (.Slice none (some e) none p) sp] [] pos) (.ok (.bytes (slc b none (some k)))) := fun σ s Q E S q ex => by
  refine wpAny_Call_ofName (gv f n np s _ _ ok hx S.cs ?_)
  refine callWith_of (P := fun h => g.K.In h) rfl (kept_looks kept_type) ?_
  refine evalArgs_plain (x := eval (.Subscript (.Name x np') (.Slice none (some e) none p) sp) f.env) (rest := backTo pos []) (spliced_cons ?_)
  refine Subscript_ (ownName ok S hxs hb rfl ?_)
  refine wpAny_Slice (evalP (e := none) (i := none) EvP.no S fun l h₂ t₂ pl k₂ => evalP (s := { s with heap := h₂, toks := t₂ }) (EvP.at he) (S.mono ok k₂) fun u h₃ t₃ pu k₃ => ?_)
  rw [evalPart_none]
  refine wpAny_pure ?_
  have k4 := k₂.trans (k₃.trans (push_kf f.fs h₃ { cls := .type "slice", data := .fields #[l, u, .none] }))
  have S₄ := S.mono ok k4
  obtain ⟨ha, hl⟩ := S₄.ba hb
  have hsl : (h₃.push { cls := .type "slice", data := .fields #[l, u, .none] }).IsSliceOf h₃.objs.size l u .none := Heap.IsSliceOf.new _ _ _ _
  cases pl
  cases pu
  refine tail_any (s := { s with heap := h₃.push _, toks := t₃ }) (T := "bytearray") ⟨_, ha, rfl⟩ ba_slot_get.lookup ?_ rfl
  refine cut_ba (s := { s with heap := h₃.push _, toks := t₃ }) ha (ba_size hl) hsl ?_
  refine spliced_nil ?_
  have hpick : KBy.picked b.toArray none (some k) = (slc b none (some k)).toArray := by
    rw [KBc.picked_eq]
    unfold slc
    simp [clo, chi]
  have k5 := k4.trans (push_kf f.fs _ (baObj (KBy.picked b.toArray none (some k))))
  refine ⟨ok.G.X.keeps (S.mono ok k5).cs.keep, ?_⟩
  refine bytes_ba (s := { s with heap := (h₃.push _).push _, toks := t₃ }) (b := KBy.picked b.toArray none (some k)) (Heap.get?_push_size _ rfl) (Nat.le_trans (KBc.size_picked_le b.toArray none (some k)) (ba_size hl)) fun t k' => ?_
  rw [hpick]
  refine q _ _ _ k' rfl ?_ ?_
  · rw [← hpick]; exact k5
  · simp only [Rep]; exact ⟨⟨t, rfl⟩, Nat.le_trans (slc_length_le _ _ _) hl⟩
end
theorem caller_clean {prog : Program} {w : World} {t : Sem PySem.Fin} {Q : PySem.Fin → Shared → Prop} {E : Value → Shared → Prop} {s : Shared} (h : wpP (model prog w) callerA t Q E s) (p : Pos) :
    wp (model prog w) ⟨.builtin "claim.caller" {}, none, none, [], none⟩ t (fun a _ s' => Q a s') (fun e _ s' => E e s') p s :=
  h _ p caller_in (show "claim.caller" ∉ badIds by decide) fun _ m => nomatch m
theorem ends_R {prog : Program} {w : World} {t : Sem PySem.Fin} {s : Shared} {R : Result → Shared → Prop} (hreg : s.asleep)
    (h : wpP (model prog w) callerA t (fun fin s' => ∃ f, fin = .done f ∧ (R (.ok f) s' ∧ leftWithCleanup s'.gens = false)) (fun e s' => R (.error e) s' ∧ leftWithCleanup s'.gens = false) s) :
    ∃ n r s' s'', runN (denote table) prog w n s ⟨t, .builtin "claim.caller" {}, default, []⟩ = .halted (outcomeOf r) s' ∧
      schedN (denote table) prog w n (.single s ⟨t, .builtin "claim.caller" {}, default, []⟩) = .halted (outcomeOf r) s' ∧ s'.forget = s''.forget ∧ R r s'' := by
  have hw : wp (model prog w) ⟨.builtin "claim.caller" {}, none, none, [], none⟩ t (Sem.finPost (model prog w) ⟨.builtin "claim.caller" {}, none, none, [], none⟩ fun r s' => R r s' ∧ leftWithCleanup s'.gens = false) (fun e _ s' => R (.error e) s' ∧ leftWithCleanup s'.gens = false) default s :=
    Sem.wp_mono _ _ t (fun fin p' s' h' => by obtain ⟨f, rfl, hf⟩ := h'; exact hf) (fun _ _ _ h' => h') default s (caller_clean h default)
  obtain ⟨n, r, s₁, s₂, hs, hn, hfo, hR⟩ := wp_halts_full (M := model prog w) (R := R) hreg hw
  exact ⟨n, r, s₂, s₁, hn, hs, hfo, hR⟩
theorem from_R {c : ClaimW} {tree : List Value → Sem PySem.Fin} {w : World} {s : Shared} {free : Addr → Prop} {gens : Prop} {kept : Heap → Prop} (hz : s.asleep) (hgens : s.gens = #[])
    (hspec : ∀ args, c.pre args = true → WData.layableAll args = true → ∀ ord : List DictEntry → List DictEntry, (∀ l, (ord l).Perm l) →
      ∃ vs s₁, layAllW c.records (classAt s.heap) w.params ord args s = some (vs, s₁) ∧
        wpP (model c.prog w) callerA (tree vs) (fun fin s' => ∃ f, fin = .done f ∧ (c.Ends s args vs s₁ (.ok f) s' ∧ s'.os = s.os ∧ AllBare s'.gens ∧ kept s'.heap))
          (fun e s' => c.Ends s args vs s₁ (.error e) s' ∧ s'.os = s.os ∧ AllBare s'.gens ∧ kept s'.heap) s₁) :
    c.CallFrom (fun vs => ⟨tree vs, .builtin "claim.caller" {}, default, []⟩) w free gens kept s := by
  intro args hpre hlay ord hord
  obtain ⟨vs, s₁, hlaid, hcode⟩ := hspec args hpre hlay ord hord
  have rest := layAllW_rest _ _ _ hlaid
  have hc : wpP (model c.prog w) callerA (tree vs) (fun fin s' => ∃ f, fin = .done f ∧ ((c.Ends s args vs s₁ (.ok f) s' ∧ s'.os = s.os ∧ kept s'.heap) ∧ leftWithCleanup s'.gens = false))
      (fun e s' => (c.Ends s args vs s₁ (.error e) s' ∧ s'.os = s.os ∧ kept s'.heap) ∧ leftWithCleanup s'.gens = false) s₁ :=
    wpP_mono hcode (fun fin s' ⟨f, e, a, b, d, k⟩ => ⟨f, e, ⟨a, b, k⟩, leftWithCleanup_false_of_bare d⟩) fun e s' ⟨a, b, d, k⟩ => ⟨⟨a, b, k⟩, leftWithCleanup_false_of_bare d⟩
  obtain ⟨k, r, s', s'', hrun, hsched, hfo, hcase, hos, hkp⟩ := ends_R (R := fun r s' => c.Ends s args vs s₁ r s' ∧ s'.os = s.os ∧ kept s'.heap) (Shared.asleep_of_life rest.2.2.2 hz) hc
  obtain ⟨eh, _, _, eo, _⟩ := Shared.forget_eq hfo
  have hcase := hcase.congr eh
  have hkp : kept s'.heap := by first | exact eh ▸ hkp | (rw [eh] at hkp; exact hkp) | (rw [← eh] at hkp; exact hkp)
  rw [← eo] at hos
  have hlife : s'.heap.life = s.heap.life := (runN_life _ _ _ hrun).trans rest.2.2.2
  refine ⟨vs, s₁, hlaid, k, _, s', hsched, ?_, (fun _ i x hx => by rw [hgens] at hx; simp at hx), hkp, by rw [hlife], Shared.rest_eq hos⟩
  rcases hcase with ⟨v, rfl, d1, d2, d3, d4, d5⟩ | ⟨e, ob, cls, rfl, d1, d2, d3, d4, d5⟩
  · exact .inl ⟨v, rfl, d1, d2, d3, fun b o y _ => d4 b o y, d5⟩
  · exact .inr ⟨e, ob, cls, rfl, d1, d2, d3, d4, fun b o y _ => d5 b o y⟩
abbrev WalkR (q : Program) (loose : List Str) (XP : (Str → Option Value) → Heap → Prop) (YP : World → Heap → Prop) (r : RowW) (d : DefRec) (kwd : List (Str × Expr)) : Prop :=
  ∀ (w : World) (s₀ s₁ : Shared) (mg mb : Str → Option Value), Ground q loose r.records XP w s₀ mg mb s₁.heap → YP w s₁.heap → ∀ (a : Addr) (o : Obj) (pm cd doc dV kV : Value), s₁.heap.get? a = some o →
    o.data = .func { docDef d.name d.params d.body d.scope pm cd doc with defaults := dV, kwdefaults := kV } → s₁.heap.CodeRec cd d.name → Dflts mg s₁.heap d.params kwd dV kV → mg d.name = some (.ref a) → s₁.gens = #[] →
    ∀ (args : List WData) (vals : List Value) (as : List Addr), r.claim.pre args = true → WData.layableAll args = true → ReadsAllW r.records (classAt s₀.heap) s₁.heap vals args as → WellAll w.params s₁.heap vals args → (∀ a ∈ as, (a == sysModules) = false) →
      wpP (model r.prog w) callerA (call (.ref a) vals) (fun v s' => GoodWG r.claim (classAt s₀.heap) (ExcName.means s₀.heap) args s₁ (.ok (.ret v)) s')
        (fun e s' => GoodWG r.claim (classAt s₀.heap) (ExcName.means s₀.heap) args s₁ (.error e) s') s₁
theorem holds_R {r : OpenRow} {q : Program} {loose : List Str} {Xt : Shared → Bool} {XP : (Str → Option Value) → Heap → Prop} {α : Type} {Yf : Shared → α} {Ya : World → α} {YP : World → Heap → Prop} {d : DefRec} {kwd : List (Str × Expr)} {N : Nat}
    (left : LeftO r.prog q loose Xt Yf Ya N) (hY : ∀ w s, Yf s = Ya w → YP w s.heap) (hYk : ∀ w h h', YP w h → (∀ b o, h.get? b = some o → h'.get? b = some o) → YP w h')
    (hX : ∀ s, Xt s = true → XP (s.heap.nsMap mainGlobals) s.heap) (hXk : ∀ mg h h', XP mg h → (∀ b o, h.get? b = some o → h'.get? b = some o) → XP mg h')
    (hdef : defOf q r.name = some (d, kwd)) (hp : r.prog.theDef r.name = some (d.params, d.body, d.scope)) (hk : kwWritten? d.params.kwonlyargs d.params.kw_defaults = some kwd) (hRf : ∀ s, Xt s = true → RecFacts r.records s.heap) (hwr : (!r.writes || r.records.isEmpty) = true)
    (k1 : r.wellSaid = true) (ok : (chainsOk q && opensWell r.prog && (frees r.toRowW && r.within.isEmpty)) = true) (hb : r.prog.bare) (hw : r.toRowW.promised)
    (walk : WalkR q loose XP YP r.toRowW d kwd) : r.Holds := by
  refine ⟨k1, hw, ?_⟩
  obtain ⟨ok, k5⟩ := Bool.and_eq_true_iff.mp ok
  obtain ⟨hch, o1⟩ := Bool.and_eq_true_iff.mp ok
  obtain ⟨k5, k6⟩ := Bool.and_eq_true_iff.mp k5
  obtain ⟨hsame, hu, ha, hap, hm⟩ := frees_parts k5
  refine ⟨⟨hb, o1, by show r.toRowW.makers.map _ = []; rw [hm]; rfl⟩, hw.witness, fun w => ⟨(left.behind hX hch w).1, fun s' hs' => ?_⟩⟩
  obtain ⟨s₀, hf, hg0, s, hT, hz, hgens, hg, G00, y⟩ := (left.behind (XP := fun mg h => XP mg h ∧ RecFacts r.records h) (fun s hs => ⟨hX s hs, hRf s hs⟩) hch w).2 s' hs'
  have G0 : Ground q loose [] XP w s (s.heap.nsMap mainGlobals) (s.heap.nsMap builtinsNs) s.heap := ⟨G00.T, G00.B, G00.D, G00.TE, G00.TD, G00.W, G00.X.1, G00.cls, G00.has, G00.apart, G00.once, G00.K⟩
  have RF := G00.X.2
  have hT' := hT
  have hgens : s.gens = #[] := Array.eq_empty_of_size_eq_zero (beq_iff_eq.mp hgens)
  have G : Ground q loose r.records XP w s _ _ s.heap := RF.ground G0
  refine ⟨s₀, hf, hg0, s, hT, fun n hn => ?_, RF.1, RF.2.1, ?_⟩
  · obtain rfl : n = r.name := by split at hn <;> simp_all
    exact pinned_of_view hg G0 hdef hp hk
  refine from_R (c := r.toRowW.claim) hz hgens fun args hpre hlay ord hord => ?_
  obtain ⟨⟨vs, s₁⟩, hlaid⟩ := Option.isSome_iff_exists.mp (layAllW_isSome (P := w.params) (ord := ord) G.has args r.toRowW.args s (pre_splitW hpre).1)
  have keeps := layAllW_keeps _ _ _ hlaid
  have rest := layAllW_rest _ _ _ hlaid
  obtain ⟨as, hrd, hin, hold⟩ := reads_layAllW hord _ _ _ hlaid hlay s₁.heap (fun _ _ e => e)
  have L : Laid r.records w s s₁ args vs as := ⟨⟨ord, hord, hlaid⟩, hrd, hin, hold, keeps, rest.1.trans hgens, rest.2.2.1⟩
  have G₁ := G.keeps hXk keeps
  have hi := ident_freeW hu ha hap
  have hwi : r.toRowW.claim.within = [] := List.isEmpty_iff.mp k6
  obtain ⟨a, o, pm, cd, doc, dV, kV, h1, h2, h3, h4, h5⟩ := G₁.fn hdef
  have h := walk w s s₁ _ _ G₁ (hYk _ _ _ (hY w s y) keeps) a o pm cd doc dV kV h2 h3 h4 h5 (defOf_name hdef ▸ h1) L.gens args vs as hpre hlay L.reads L.well (L.low G.low)
  refine ⟨vs, s₁, hlaid, ?_⟩
  refine wpP_then (wpAny_nsGet G₁.T.g ?_)
  rw [h1]
  refine wpP_bind (wpP_mono h (fun v s' g => wpP_of (wpAny_pure ⟨_, rfl, ?_⟩)) fun e s' g => ?_)
  · have z := g.laid (c := r.toRowW.claim) hsame hwi hi L
    exact ⟨z.1, z.2.1, z.2.2, fun q => ⟨namesKept_of hT' hg _ keeps g.2.1.old, noTable hwr q⟩⟩
  · have z := g.laid (c := r.toRowW.claim) hsame hwi hi L
    exact ⟨z.1, z.2.1, z.2.2, fun q => ⟨namesKept_of hT' hg _ keeps g.2.1.old, noTable hwr q⟩⟩
theorem lri_no_len : typeLookup (.type "list_reverseiterator") "__len__" = pure none := by rw [typeLookup_type, builtinLookup_eq_fast]; kernel_rfl
theorem lri_hint : typeLookup (.type "list_reverseiterator") "__length_hint__" = pure (some (.builtin "list_reverseiterator.__length_hint__")) := by rw [typeLookup_type, builtinLookup_eq_fast]; kernel_rfl
theorem lri_sub : isSubtype (.type "list_reverseiterator") (.type "list_reverseiterator") = pure true := by rw [isSubtype_type]; kernel_rfl
theorem lri_split : splitId "list_reverseiterator.__length_hint__" = some ("list_reverseiterator", "__length_hint__") := by decide +kernel
section
variable {prog : Program} {w : World} {A : Around} {E : Value → Shared → Prop} {s : Shared}
theorem hint_lri {r l : Addr} {i : Int} {Q : Bool → Shared → Prop} (hit : s.heap.IsRevIter r l i) (h : Q false s) : wpAny (model prog w) A (Builtin.List.listLengthHint (.ref r)) Q E s := by
  have hT := Heap.IsRevIter.typeIs (s := s) hit
  unfold Builtin.List.listLengthHint
  refine wpAny_bind (wpAny_specialOf hT lri_no_len ?_)
  dsimp only
  rw [if_neg (by decide +kernel)]
  rw [if_neg (by decide)]
  refine wpAny_bind (wpAny_specialOf hT lri_hint ?_)
  dsimp only
  rw [lri_split]
  dsimp only
  refine wpAny_bind (wpAny_isInstance hT lri_sub ?_)
  rw [if_neg (by decide)]
  rw [if_pos (by decide +kernel)]
  rw [if_neg (by decide)]
  exact wpAny_pure h
theorem extend_lri {R : Result → Shared → Prop} {r l : Addr} {items : Array Value} (hh : A.handled = none) (hit : s.heap.IsRevIter r l ((items.size : Int) - 1)) (hl : s.heap.IsList l items) (hlen : items.size ≤ sizeLine) (hne : l ≠ r)
    (S : Addr) (res : Value) (c₀ : Nat) (hSr : S ≠ r) (hSl : S ≠ l) (hS : s.heap.get? S = some { cls := .type "list", data := .seq #[] c₀ })
    (hR : ∀ h' tk acc' c', (∀ b o, b ≠ S → b ≠ r → s.heap.get? b = some o → h'.get? b = some o) → h'.get? S = some { cls := .type "list", dict := none, data := .seq acc' c', slots := #[] } →
      ItemsOf (fun i v => items[items.size - 1 - i]? = some v) acc' items.size → R (.ok (.ret res)) { s with heap := h', toks := tk }) :
    wpAny (model prog w) A.in1 (Builtin.List.listExtendWith (.ref S) (.ref r) res)
      (fun fin s' => match fin with | .done f => R (.ok f) s' | .again c' => c'.quiet = true ∧ codeAny (model prog w) A c' R s') (fun e s' => R (.error e) s') s := by
  have hSf : S ∉ [r, l] := fun hm => by simp at hm; rcases hm with h | h <;> contradiction
  have W := (Walks.listRev (prog := prog) (w := w) (A := A.in1) hh r l hne items).toS
  have key : ∀ (h : Heap) (c₁ tk : Nat), h.IsRevIter r l ((items.size : Int) - 1) → h.IsList l items → (∀ b o, b ≠ S → s.heap.get? b = some o → h.get? b = some o) →
      h.get? S = some { cls := .type "list", data := .seq #[] c₁ } → codeAny (model prog w) A (.builtin "list.extend.loop" ⟨[.ref S, .ref r, res], []⟩) R { s with heap := h, toks := tk } := by
    intro h c₁ tk hit hl hk hS₁
    refine codeAny_extend_loopS W hlen S hSf res items.size 0 _ #[] c₁ rfl (Nat.zero_le _) ⟨Nat.zero_le _, by simpa using hit, hl⟩ hS₁ (ItemsOf.nil _) fun s' acc' c' hm hS' hacc => ?_
    rw [Moved.eq_with hm]
    refine hR s'.heap s'.toks acc' c' (fun b o hb hb2 e => hm.heap b o (fun hmem => ?_) (hk b o hb e)) hS' hacc
    rcases List.mem_cons.mp hmem with e' | hmem
    · exact hb e'
    · exact hb2 (by simpa using hmem)
  unfold Builtin.List.listExtendWith
  have hT := Heap.IsRevIter.typeIs (s := s) hit
  refine wpAny_bind (wpAny_typeOf hT ?_)
  have h1 : Builtin.List.listSameRef (.ref S) (.ref r) = false := by simp [Builtin.List.listSameRef, hSr]
  have h2 : (Value.type "list_reverseiterator" == Value.type "list") = false := by decide
  have h3 : (Value.type "list_reverseiterator" == Value.type "tuple") = false := by decide
  simp only [h1, h2, h3, Bool.or_false, Bool.false_eq_true, if_false]
  refine wpAny_bind (wpAny_pyIter_revIter hit ?_)
  refine wpAny_bind (wpAny_holding (hint_lri hit ?_))
  first
    | exact wpAny_pure ⟨plainId_quiet F.plain_extend_loop _, key _ c₀ _ hit hl (fun b o _ e => e) hS⟩
    | (rw [if_neg (by decide +kernel)]; exact wpAny_pure ⟨plainId_quiet F.plain_extend_loop _, key _ c₀ _ hit hl (fun b o _ e => e) hS⟩)
theorem call_list_lri {Q : Value → Shared → Prop} {r l : Addr} {items : Array Value} (hh : A.handled = none) (hit : s.heap.IsRevIter r l ((items.size : Int) - 1)) (hl : s.heap.IsList l items) (hlen : items.size ≤ sizeLine) (hne : l ≠ r)
    (hQ : ∀ h' tk acc' c', (∀ b o, b ≠ r → s.heap.get? b = some o → h'.get? b = some o) →
      h'.get? s.heap.objs.size = some { cls := .type "list", dict := none, data := .seq acc' c', slots := #[] } → ItemsOf (fun i v => items[items.size - 1 - i]? = some v) acc' items.size → Q (.ref s.heap.objs.size) { s with heap := h', toks := tk }) :
    wpAny (model prog w) A (call (.type "list") [.ref r]) Q E s := by
  refine callType_codes (Q₁ := fun obj s₁ => obj = .ref s.heap.objs.size ∧ s₁ = { s with heap := s.heap.push { cls := .type "list", data := .seq #[] } }) F.called_list (F.typeCall_list_1 _) F.entry_list_init
    (code_list_new _ ⟨rfl, rfl⟩) fun obj s₁ h₁ => ?_
  obtain ⟨rfl, rfl⟩ := h₁
  have hS : (s.heap.push { cls := .type "list", data := .seq #[] }).get? s.heap.objs.size = some { cls := .type "list", data := .seq #[] } := Heap.get?_push_size _ rfl
  obtain ⟨oi, hoi, _⟩ := id hit
  obtain ⟨ol, hol, _⟩ := id hl
  have nr : s.heap.objs.size ≠ r := Ne.symm (Nat.ne_of_lt (Heap.lt_size hoi))
  have nl : s.heap.objs.size ≠ l := Ne.symm (Nat.ne_of_lt (Heap.lt_size hol))
  refine ⟨⟨_, hS, rfl⟩, F.args_list_init_2 _ _, ?_⟩
  show wpAny _ _ (do let old ← Builtin.List.listItems (.ref s.heap.objs.size); Builtin.List.listUpdate (.ref s.heap.objs.size) (fun _ => #[]); letGo old.toList.reverse; Builtin.List.listExtendWith (.ref s.heap.objs.size) (.ref r) .none) _ _ _
  refine wpAny_bind ?_
  unfold Builtin.List.listItems
  refine wpAny_bind (wpAny_seqItems hS rfl (wpAny_pure ?_))
  show wpAny _ _ (updateSeq s.heap.objs.size (fun _ => #[]) >>= fun _ => letGo (#[] : Array Value).toList.reverse >>= fun _ => Builtin.List.listExtendWith (.ref s.heap.objs.size) (.ref r) .none) _ _ _
  refine wpAny_bind (wpAny_updateSeq hS rfl ?_)
  have hS₂ := Heap.get?_update_self (Obj.mapSeq (fun _ => (#[] : Array Value))) hS rfl
  have oth : ∀ b o, b ≠ s.heap.objs.size → s.heap.get? b = some o → ((s.heap.push { cls := .type "list", data := .seq #[] }).update s.heap.objs.size (Obj.mapSeq (fun _ => (#[] : Array Value)))).get? b = some o :=
    fun b o hb e => (Heap.get?_update_other _ _ (Ne.symm hb)).trans (Heap.get?_push_of_some _ e)
  refine wpAny_bind (wpAny_letGo ?_)
  refine extend_lri (A := A.in1) hh (hit.at fun o e => oth r o (Ne.symm nr) e) (hl.at fun o e => oth l o (Ne.symm nl) e) hlen hne s.heap.objs.size .none _ nr nl hS₂ fun h' tk acc' c' hk hS' hacc => ?_
  exact ⟨rfl, hQ h' tk acc' c' (fun b o hb e => hk b o (Nat.ne_of_lt (Heap.lt_size e)) hb (oth b o (Nat.ne_of_lt (Heap.lt_size e)) e)) hS' hacc⟩
end
section
variable {g : GI} {f : Fm} {n m : Nat} {ρ : En}
theorem items_rev {vs : List Value} {acc : Array Value} (h : ItemsOf (fun i v => vs.toArray[vs.toArray.size - 1 - i]? = some v) acc vs.toArray.size) : acc = vs.reverse.toArray := by
  obtain ⟨h1, h2⟩ := h
  have hn : vs.toArray.size = vs.length := by simp
  rw [hn] at h1 h2
  refine Array.ext (by simpa using h1) fun j hj hj' => ?_
  have e := h2 j acc[j] (Array.getElem?_eq_getElem hj)
  have e' : vs[vs.length - 1 - j]? = some acc[j] := by simpa using e
  have hj2 : j < vs.length := by omega
  rw [List.getElem?_eq_getElem (by omega)] at e'
  injection e' with e'
  rw [← e']
  simp [List.getElem_reverse]
theorem EvO.rev {x : Str} {ds : List V} {np np2 np3 pos pos2 : Pos} (ok : FmOk g f n) (hx : f.env.kindOf "list" = some .globalImplicit) (gv : GV g "list" (.type "list")) (hx2 : f.env.kindOf "reversed" = some .globalImplicit) (gv2 : GV g "reversed" (.type "reversed")) (hl : LName f ρ x ds) :
    EvO g f ρ (.Call (.Name "list" np) [.Call (.Name "reversed" np2) [.Name x np3] [] pos2] [] pos) (.li ds.reverse) := fun σ s Q E S q => by
  refine wpAny_Call_ofName (gv f n np s _ _ ok hx S.cs ?_)
  refine callWith_of (P := fun h => g.K.In h) rfl (kept_looks kept_type) ?_
  refine evalArgs_plain (x := eval (.Call (.Name "reversed" np2) [.Name x np3] [] pos2) f.env) (rest := backTo pos []) (spliced_cons ?_)
  refine wpAny_Call_ofName (gv2 f n np2 s _ _ ok hx2 S.cs ?_)
  refine callWith_of (P := fun h => g.K.In h) rfl (kept_looks kept_type) ?_
  refine evalArgs_plain (x := eval (.Name x np3) f.env) (rest := backTo pos2 []) (spliced_cons (lname_at ok S hl fun a vs m ha hf rl hz => spliced_nil ⟨ok.G.X.keeps S.cs.keep, ?_⟩))
  refine call_reversed_list (l := a) (items := vs.toArray) ⟨_, ha, rfl, m, rfl⟩ (spliced_nil ?_)
  have k1 := push_kf f.fs s.heap (revObj a ((vs.toArray.size : Int) - 1))
  have S1 := S.mono ok k1
  refine ⟨ok.G.X.keeps S1.cs.keep, ?_⟩
  have hr0 : s.heap.get? s.heap.objs.size = none := none_of_ge (Nat.le_refl _)
  refine call_list_lri (s := { s with heap := s.heap.push _ }) (l := a) (items := vs.toArray) ok.hd ⟨_, Heap.get?_push_size _ rfl, rfl, rfl⟩ ⟨_, Heap.get?_push_of_some _ ha, rfl, m, rfl⟩ (by simpa using hz) (Nat.ne_of_lt (Heap.lt_size ha)) fun h' tk acc c hk hS hacc => ?_
  have k2 : Kf f.fs s.heap h' := Kf.of_keeps fun b o e => hk b o (Nat.ne_of_lt (Heap.lt_size e)) (Heap.get?_push_of_some _ e)
  have hsz : (s.heap.push (revObj a ((vs.toArray.size : Int) - 1))).objs.size = s.heap.objs.size + 1 := Heap.size_push _ _
  have hn : s.heap.get? (s.heap.push (revObj a ((vs.toArray.size : Int) - 1))).objs.size = none := none_of_ge (by rw [hsz]; exact Nat.le_succ _)
  refine q _ h' tk k2 hn ?_
  rw [items_rev hacc] at hS
  exact own_of S k2 hS hn (RepL.reverse rl) (by simpa using hz)
end
section
variable {g : GI} {f : Fm} {n m : Nat} {ρ : En}
theorem Ev.globInt {x : Str} {pos : Pos} {i : Int} {tk : Tok} (ok : FmOk g f n) (hx : f.env.kindOf x = some .globalImplicit) (gv : GV g x (.int i tk)) : Ev g f ρ (.Name x pos) (.ok (.int i)) := fun σ s Q E S q _ =>
  gv f n pos s _ _ ok hx S.cs (q _ _ s.heap s.toks rfl (Kf.refl _ _) (by simp only [Rep]; exact ⟨_, rfl⟩))
theorem Ev.globBytes {x : Str} {pos : Pos} {b : List UInt8} {tk : Tok} (ok : FmOk g f n) (hx : f.env.kindOf x = some .globalImplicit) (gv : GV g x (.bytes b.toArray tk)) (hb : b.length ≤ 1000) : Ev g f ρ (.Name x pos) (.ok (.bytes b)) := fun σ s Q E S q _ =>
  gv f n pos s _ _ ok hx S.cs (q _ _ s.heap s.toks rfl (Kf.refl _ _) (by simp only [Rep]; exact ⟨⟨_, rfl⟩, small_line hb⟩))
theorem rep_one {α : Type} (c : α) (k : Nat) : (List.replicate k [c]).flatten = List.replicate k c := by
  induction k with
  | zero => rfl
  | succ k ih => rw [List.replicate_succ, List.flatten_cons, ih]; rfl
theorem Op2.mulOct {c : UInt8} {k : Int} (h0 : -1000 ≤ k) (h1 : k ≤ 1000) : Op2 g n (binaryOp .Mult) (.bytes [c]) (.int k) (.ok (.bytes (List.replicate k.toNat c))) := fun f ρ σ s Q E va vb ok S ra rb q ex => by
  simp only [Rep] at ra rb
  obtain ⟨⟨t, rfl⟩, hl⟩ := ra
  obtain ⟨u, rfl⟩ := rb
  refine bytes_mul_any (b := [c]) (by simp) (by omega) (by omega) (by simp) fun t' k' => ?_
  rw [rep_one]
  exact q _ _ s.heap k' rfl (Kf.refl _ _) (by simp only [Rep]; exact ⟨⟨t', rfl⟩, by rw [List.length_replicate]; exact small_line (by omega)⟩)
theorem Ex.tryPass {body : List Stmt} {x : Str} {v : Value} {np pp hp pos : Pos} {rest : List Stmt} {O₁ O : Out → Prop} (ok : FmOk g f n) (hst : f.stack = f.env :: f.outer) (hfr : f.env.frame = some f.L) (hkn : KtsName g.K x v) (hx : f.env.kindOf x = some .globalImplicit) (hd : (x == ("__debug__" : Str)) = false)
    (hb : Ex g f ρ body O₁) (hn : ∀ ρ', O₁ (.next ρ') → Ex g f ρ' rest O) (ho : ∀ o, O₁ o → (∀ ρ', o ≠ .next ρ') → (∀ c ρ', o ≠ .exc c ρ') → O o)
    (hc : ∀ c ρ', O₁ (.exc c ρ') → exmOne g.K c v = some true ∧ Ex g f ρ' rest O) : Ex g f ρ (.Try body [.ExceptHandler (some (.Name x np)) none [.Pass pp] hp] [] [] pos :: rest) O := by
  refine Ex.seq (O₁ := fun o => (O₁ o ∧ ∀ c ρ', o ≠ .exc c ρ') ∨ ∃ c ρ', O₁ (.exc c ρ') ∧ o = .next ρ') ?_ (fun ρ' h => ?_) (fun o h hnn => ?_)
  · intro σ s Q E S q ex
    have core : wpAny (model g.prog g.w) f.A (exec (.Try body [.ExceptHandler (some (.Name x np)) none [.Pass pp] hp] [] [] pos) f.env) Q E s := by
      refine wpAny_Try_except (hb σ s _ _ S (fun fl o h' tk o1 ok1 => ?_) (fun c ρ' e h' tk o1 z => ?_))
      · cases o with
        | next ρ' =>
          obtain ⟨rfl, z⟩ := ok1
          exact wpAny_execs_nil (q .next (.next ρ') h' tk (.inl ⟨o1, fun _ _ e => nomatch e⟩) ⟨rfl, z⟩)
        | brk ρ' => obtain ⟨rfl, z⟩ := ok1; exact q _ (.brk ρ') h' tk (.inl ⟨o1, fun _ _ e => nomatch e⟩) ⟨rfl, z⟩
        | cont ρ' => obtain ⟨rfl, z⟩ := ok1; exact q _ (.cont ρ') h' tk (.inl ⟨o1, fun _ _ e => nomatch e⟩) ⟨rfl, z⟩
        | ret d => obtain ⟨v, rfl, z⟩ := ok1; exact q _ (.ret d) h' tk (.inl ⟨o1, fun _ _ e => nomatch e⟩) ⟨v, rfl, z⟩
        | exc _ _ => exact ok1.elim
      · obtain ⟨he, _⟩ := hc c ρ' o1
        obtain ⟨σ', h₁, S', T', hz⟩ := z
        have hff : h₁.FunFrames g.H0 f.stack := by
          obtain ⟨m, ⟨oL, es, ep, hL, hd, _⟩, _⟩ := S'.ex
          exact ok.stk h₁ ⟨oL, hL, fun vs q => by rw [hd] at q; cases q⟩ S'.cs.ff
        have fr' : f.A.frames = some (f.env :: f.outer) := hst ▸ ok.fr
        have fin : ∀ (h₅ : Heap) (a0 : Value), Heap.FlyingW (hideAll h₁ f.fs) f.stack e c a0 h₅ → h₁.UpToSlots h₅ → wpAny (model g.prog g.w) f.A (handleBy (.ref e) f.env [.ExceptHandler (some (.Name x np)) none [.Pass pp] hp]) Q E { s with heap := h₅, toks := tk } := fun h₅ a0 fl up => by
          have kf := kf_fly ok S' fl up
          have keep : ∀ b o, g.H0.get? b = some o → h₅.get? b = some o := (S'.mono ok kf).cs.keep
          have X : g.K.In h₅ := ok.G.X.keeps keep
          have LT : Looks (model g.prog g.w) h₅ (typeOf (.ref e)) c := by
            obtain ⟨ob, hob, hcl⟩ := fl.there
            subst hcl
            exact (Looks.ld hob).andThen .now
          refine wpAny_handleBy_cons (codeAny_handlers_test (name_any ok.G ok.kind ok.eG ok.eB hx hd hkn keep ((exm_one X LT he).here ?_))) (by intro q; cases q)
          refine codeAny_handlers_suite ?_
          refine lands_againW fl fun h₆ fl₆ up₆ => ?_
          refine wpAny_execs_cons (wpAny_Pass (wpAny_execs_nil ?_))
          have kf' := kf_fly ok S' fl₆ (up.trans up₆)
          exact q .next (.next ρ') h₆ _ (.inr ⟨c, ρ', o1, rfl⟩) ⟨rfl, σ', S'.mono ok kf', T'.trans kf'.trn⟩
        rcases hz with ⟨k₁, a0, fl⟩ | ⟨args, mk⟩
        · refine wpAny_looks_onW fr' hfr (hst ▸ fl) fun h₄ held up₄ => ?_
          refine wpAny_landsW held fun h₅ fl₅ up₅ => ?_
          exact fin h₅ a0 (hst.symm ▸ fl₅) (k₁.up.trans (up₄.trans up₅))
        · have hin : ∀ env ∈ f.stack, ∀ b, env.frame = some b → b ∈ f.fs := fun env he b hb => ok.sub b (List.mem_filterMap.mpr ⟨env, he, hb⟩)
          have hff' := funFrames_hide hff hin
          rw [hst] at hff'
          refine note_made fr' hfr (fun b o q => of_hideAll _ q) hff' mk fun h₄ t held up₄ => ?_
          refine wpAny_landsW held fun h₅ fl₅ up₅ => ?_
          exact fin h₅ _ (hst.symm ▸ fl₅) ((Heap.UpToSlots.of_keeps mk.keeps).trans (up₄.trans up₅))
    exact wpAny_execs_cons (wpAny_mono core (fun fl s' z => by cases fl <;> first | exact wpAny_execs_nil z | exact z) fun _ _ z => z)
  · rcases h with ⟨h, _⟩ | ⟨c, ρ'', h, e⟩
    · exact hn ρ' h
    · injection e with e; subst e; exact (hc c _ h).2
  · rcases h with ⟨h, h2⟩ | ⟨_, ρ'', _, e⟩
    · exact ho o h hnn h2
    · exact (hnn _ e).elim
end
theorem len_succ {α : Type} {vs : List α} {k : Nat} (h : vs.length = k + 1) : ∃ a r, vs = a :: r ∧ r.length = k := by
  cases vs with
  | nil => cases h
  | cons a r => exact ⟨a, r, rfl, Nat.succ.inj h⟩
theorem all1 {α : Type} {P : List α → Prop} (h : ∀ a, P [a]) (vs : List α) (hv : vs.length = 1) : P vs := by
  obtain ⟨a, r, rfl, h1⟩ := len_succ hv
  rw [List.eq_nil_of_length_eq_zero h1]; exact h a
theorem all2 {α : Type} {P : List α → Prop} (h : ∀ a b, P [a, b]) (vs : List α) (hv : vs.length = 2) : P vs := by
  obtain ⟨a, r, rfl, h1⟩ := len_succ hv
  exact all1 (P := fun r => P (a :: r)) (h a) r h1
theorem all3 {α : Type} {P : List α → Prop} (h : ∀ a b c, P [a, b, c]) (vs : List α) (hv : vs.length = 3) : P vs := by
  obtain ⟨a, r, rfl, h1⟩ := len_succ hv
  exact all2 (P := fun r => P (a :: r)) (h a) r h1
theorem all4 {α : Type} {P : List α → Prop} (h : ∀ a b c d, P [a, b, c, d]) (vs : List α) (hv : vs.length = 4) : P vs := by
  obtain ⟨a, r, rfl, h1⟩ := len_succ hv
  exact all3 (P := fun r => P (a :: r)) (h a) r h1
theorem bind1 {fd : FuncData} {a : Str} (h : ∀ v, bindArgs fd ⟨[v], []⟩ = pure [(a, v)]) : ∀ (vs : List Value) (s : Shared), vs.length = 1 → BindsTo s fd ⟨vs, []⟩ ([a].zip (vs ++ [])) := by
  intro vs s hv
  refine all1 (P := fun vs => BindsTo s fd ⟨vs, []⟩ ([a].zip (vs ++ []))) (fun v => ?_) vs hv
  show BindsTo s fd ⟨[v], []⟩ ([a].zip ([v] ++ []))
  exact BindsTo.of_eq (h v)
theorem bind2 {fd : FuncData} {a b : Str} (h : ∀ v u, bindArgs fd ⟨[v, u], []⟩ = pure [(a, v), (b, u)]) : ∀ (vs : List Value) (s : Shared), vs.length = 2 → BindsTo s fd ⟨vs, []⟩ ([a, b].zip (vs ++ [])) := by
  intro vs s hv
  refine all2 (P := fun vs => BindsTo s fd ⟨vs, []⟩ ([a, b].zip (vs ++ []))) (fun v u => ?_) vs hv
  show BindsTo s fd ⟨[v, u], []⟩ ([a, b].zip ([v, u] ++ []))
  exact BindsTo.of_eq (h v u)
structure GP where
  prog : Program
  w : World
  H0 : Heap
  p : Program
  loose : List Str
  mg : Str → Option Value
  mb : Str → Option Value
noncomputable abbrev gi (x : GP) : GI := ⟨x.prog, x.w, Mine.k0.heap_1 x.w.params, x.H0, 387, x.p, x.loose, x.mg, x.mb, 554⟩
section
variable {gp : GP}
theorem gv_len : GV (gi gp) "len" (.builtin "len") := GV.boot (by kernel_rfl) (by kernel_rfl) (by decide) (by rfl)
theorem gv_wire : GV (gi gp) "_law_wire" (.ref 495) := GV.glob (by kernel_rfl) (by rfl)
theorem gv_Name : GV (gi gp) "Name" (.ref 387) := GV.glob (by kernel_rfl) (by rfl)
def wire (ls : List (List UInt8)) : Int := (ls.map fun l => (l.length : Int) + 1).sum
theorem bytes_at {ls : List (List UInt8)} {k : Nat} {d : V} (h : (ls.map V.bytes)[k]? = some d) : ∃ b, ls[k]? = some b ∧ d = .bytes b := by
  simp only [List.getElem?_map, Option.map_eq_some_iff] at h
  obtain ⟨b, e, rfl⟩ := h; exact ⟨b, e, rfl⟩
theorem wire_succ {ls : List (List UInt8)} {k : Nat} {b : List UInt8} (h : ls[k]? = some b) : wire (ls.take (k + 1)) = wire (ls.take k) + (b.length + 1) := by
  unfold wire
  rw [List.take_add_one, h]; simp
theorem fn_wire {ls : List (List UInt8)} : Fn (gi gp) 1 (.ref 495) [.list (ls.map .bytes)] (.ok (.int (wire ls))) := by
  refine Fn.introM (n := 0) (names := ["labels"]) (loc := ["total", "label"]) (xs := []) (dx := []) (by rfl) (by kernel_rfl) (fun vs s hv _ => bind1 (fun v => by rfl) vs s hv) (fun _ _ => by simp only [RepL]) (by decide +kernel) rfl (by decide +kernel) (by decide +kernel) ?_
  intro f₀ ok
  refine Ex.assign ok 1 rfl Ev.cint ?_
  refine Ex.seq (O₁ := fun o => o = .next [some (.sh (.list (ls.map .bytes))), some (.sh (.int (wire ls))), none]) (Ex.for (τ := Int) ok 2 rfl (ItSrc.list ok (Ev.name ok 0 rfl rfl)) (fun t => [some (.sh (.list (ls.map .bytes))), some (.sh (.int t)), none]) (fun k t => t = wire (ls.take k)) 0 (.keep (.keep (.drop .nil))) (by simp [wire]) ?turn ?done) ?rest ?out
  case turn =>
    intro k t d hd hJ
    obtain ⟨b, hb, rfl⟩ := bytes_at hd
    subst hJ
    refine Ex.aug ok 1 rfl rfl (Ev.bin ok (Ev.callB ok rfl gv_len kept_builtin (Evs.cons ok (Ev.name ok 2 rfl rfl) Evs.nil rfl) Bi.lenBytes) Ev.cint Op2.add) Op2.iadd (Ex.nil ⟨_, ?_, .keep (.keep (.drop .nil))⟩)
    rw [wire_succ hb]
  case done => intro t hJ; subst hJ; simp
  case rest =>
    intro ρ' h; injection h with h; subst h
    exact Ex.ret ok (Ev.name ok 1 rfl rfl) (fun d h => by injection h with h; subst h; exact .inl rfl) (fun c h => nomatch h)
  case out => intro o h hn; exact (hn _ h).elim
end
section
variable {gp : GP}
theorem retO {d : V} : RetO (.ok d) (.ret d) := .inl rfl
section
variable {g : GI} {f : Fm} {n : Nat} {ρ : En}
theorem Ex.retV {e : Expr} {pos : Pos} {rest : List Stmt} {d : V} (ok : FmOk g f n) (he : Ev g f ρ e (.ok d)) : Ex g f ρ (.Return (some e) pos :: rest) (RetO (.ok d)) :=
  Ex.ret ok he (fun d' h => by injection h with h; subst h; exact retO) fun c h => nomatch h
theorem Ex.retV' {e : Expr} {pos : Pos} {rest : List Stmt} {d : V} {O : Out → Prop} (ok : FmOk g f n) (he : Ev g f ρ e (.ok d)) (ho : O (.ret d)) : Ex g f ρ (.Return (some e) pos :: rest) O :=
  Ex.ret ok he (fun d' h => by injection h with h; subst h; exact ho) fun c h => nomatch h
def NoN (O : Out → Prop) (o : Out) : Prop := O o ∧ ∀ ρ', o ≠ .next ρ'
theorem Ex.retN {e : Expr} {pos : Pos} {rest : List Stmt} {d : V} {O : Out → Prop} (ok : FmOk g f n) (he : Ev g f ρ e (.ok d)) (ho : O (.ret d)) : Ex g f ρ (.Return (some e) pos :: rest) (NoN O) := Ex.retV' ok he ⟨ho, fun _ h => nomatch h⟩
theorem Ex.ifR {t : Expr} {a rest : List Stmt} {pos : Pos} {c : Bool} {O : Out → Prop} (ok : FmOk g f n) (ht : Te g f ρ t c) (ha : c = true → Ex g f ρ a (NoN O)) (hb : c = false → Ex g f ρ rest O) : Ex g f ρ (.If t a [] pos :: rest) O :=
  Ex.iff ok ht (fun o => NoN O o ∨ (c = false ∧ o = .next ρ)) (fun h => (ha h).mono fun o => .inl) (fun h => Ex.nil (.inr ⟨h, rfl⟩))
    (fun ρ' h => h.elim (fun h => (h.2 _ rfl).elim) fun ⟨hc, e⟩ => by injection e with e; subst e; exact hb hc) fun o h hn => h.elim (·.1) fun h => (hn _ h.2).elim
theorem Ex.ifF {t : Expr} {a rest : List Stmt} {pos : Pos} {c : Bool} {O : Out → Prop} (ok : FmOk g f n) (ht : Te g f ρ t c) (hc : c = true → False) (hb : Ex g f ρ rest O) : Ex g f ρ (.If t a [] pos :: rest) O :=
  Ex.ifR ok ht (fun h => (hc h).elim) (fun _ => hb)
theorem Ex.ifJ {t : Expr} {a b rest : List Stmt} {pos : Pos} {c : Bool} {O : Out → Prop} (ok : FmOk g f n) (ρ' : En) (ht : Te g f ρ t c) (ha : c = true → Ex g f ρ a (fun o => o = .next ρ')) (hb : c = false → Ex g f ρ b (fun o => o = .next ρ')) (h : Ex g f ρ' rest O) : Ex g f ρ (.If t a b pos :: rest) O :=
  Ex.iff ok ht (fun o => o = .next ρ') ha hb (fun ρ'' e => by injection e with e; subst e; exact h) fun o e hn => (hn _ e).elim
end
def absL (ls : List (List UInt8)) : Bool := ls.getLast? == some []
theorem last_at {ls : List (List UInt8)} (h : 0 < ls.length) : (ls.map V.bytes)[vidx (ls.map V.bytes).length (-1)]? = some (.bytes (ls.getLastD [])) := by
  have e : vidx (ls.map V.bytes).length (-1) = ls.length - 1 := by rw [List.length_map]; exact vidx_neg1 _
  rw [e, List.getElem?_map, ← List.getLast?_eq_getElem?]
  rw [List.getLastD_eq_getLast?]
  cases q : ls.getLast? with
  | none => rw [List.getLast?_eq_none_iff] at q; subst q; simp at h
  | some b => simp
theorem absL_eq (ls : List (List UInt8)) : (decide ((0 : Int) < ((ls.map V.bytes).length : Int)) && (ls.getLastD [] == [])) = absL ls := by
  unfold absL
  simp only [List.length_map]
  cases q : ls.getLast? with
  | none => rw [List.getLast?_eq_none_iff] at q; subst q; rfl
  | some b =>
    have hl : 0 < ls.length := by cases ls with | nil => simp at q | cons _ _ => simp
    rw [List.getLastD_eq_getLast?, q]
    simp [hl]
theorem gv_isinstance : GV (gi gp) "isinstance" (.builtin "isinstance") := GV.boot (by kernel_rfl) (by kernel_rfl) (by decide) (by rfl)
theorem gv_bytes : GV (gi gp) "bytes" (.type "bytes") := GV.boot (by kernel_rfl) (by kernel_rfl) (by decide) (by rfl)
theorem gv_tuple : GV (gi gp) "tuple" (.type "tuple") := GV.boot (by kernel_rfl) (by kernel_rfl) (by decide) (by rfl)
theorem gv_list : GV (gi gp) "list" (.type "list") := GV.boot (by kernel_rfl) (by kernel_rfl) (by decide) (by rfl)
theorem gv_range : GV (gi gp) "range" (.type "range") := GV.boot (by kernel_rfl) (by kernel_rfl) (by decide) (by rfl)
theorem gv_min : GV (gi gp) "min" (.builtin "min") := GV.boot (by kernel_rfl) (by kernel_rfl) (by decide) (by rfl)
theorem gv_max : GV (gi gp) "max" (.builtin "max") := GV.boot (by kernel_rfl) (by kernel_rfl) (by decide) (by rfl)
theorem fn_maybe {b : List UInt8} : Fn (gi gp) 2 (.ref 170) [.bytes b] (.ok (.bytes b)) := by
  refine Fn.introM (n := 1) (names := ["label"]) (loc := []) (xs := []) (dx := []) (by rfl) (by kernel_rfl) (fun vs s hv _ => bind1 (fun v => by rfl) vs s hv) (fun _ _ => by simp only [RepL]) (by decide +kernel) rfl (by decide +kernel) (by decide +kernel) ?_
  intro f₀ ok
  refine Ex.ite ok (Te.val (Ev.isInst ok rfl gv_isinstance rfl gv_bytes (Ev.name ok 0 rfl rfl) (.inl ⟨_, rfl, rfl⟩))) (fun h => Ex.retV ok (Ev.name ok 0 rfl rfl)) (fun h => nomatch h)
end
section
variable {gp : GP}
section
variable {g : GI} {f : Fm} {n : Nat} {ρ : En}
theorem TAll.and1 {x : Expr} {a : Bool} (ok : FmOk g f n) (hx : Te g f ρ x a) : TAll g f ρ .And [x] a := by
  have := TAll.and_cons (es := []) (b := true) ok hx fun _ => TAll.and_nil
  rwa [Bool.and_true] at this
theorem TAll.or1 {x : Expr} {a : Bool} (ok : FmOk g f n) (hx : Te g f ρ x a) : TAll g f ρ .Or [x] a := by
  have := TAll.or_cons (es := []) (b := false) ok hx fun _ => TAll.or_nil
  rwa [Bool.or_false] at this
end
def fe (ls : List (List UInt8)) : Int := match ls.findIdx? (· == []) with
  | some i => (i : Int)
  | none => -1
structure Lawful (ls : List (List UInt8)) : Prop where
  short : ∀ b ∈ ls, b.length ≤ 63
  small : wire ls ≤ 255
  last : fe ls < 0 ∨ fe ls = (ls.length : Int) - 1
theorem fe_succ {ls : List (List UInt8)} {k : Nat} {b : List UInt8} (h : ls[k]? = some b) : fe (ls.take (k + 1)) = if fe (ls.take k) < 0 ∧ b = [] then (k : Int) else fe (ls.take k) := by
  have hk : k < ls.length := (List.getElem?_eq_some_iff.mp h).1
  unfold fe
  rw [List.take_add_one, h]
  simp only [Option.toList_some, List.findIdx?_append]
  cases q : (ls.take k).findIdx? (· == []) with
  | some i =>
    have : ¬ ((i : Int) < 0) := by omega
    simp [this]
  | none =>
    simp only [Option.none_or]
    by_cases hb : b = []
    · subst hb; simp; omega
    · simp [hb]
def validR (tl : Addr) (ls : List (List UInt8)) : Res := if 255 < wire ls then .exc (.ref tl) else .ok .none
theorem excTooLong : ExcK (gi gp) "NameTooLong" 106 := ⟨by kernel_rfl, by kernel_rfl, by kernel_rfl, by kernel_rfl⟩
theorem fn_validate {ls : List (List UInt8)} (short : ∀ b ∈ ls, b.length ≤ 63) (last : fe ls < 0 ∨ fe ls = (ls.length : Int) - 1) : Fn (gi gp) 2 (.ref 163) [.tup (ls.map .bytes)] (validR 106 ls) := by
  refine Fn.introM (n := 1) (names := ["labels"]) (loc := ["l", "total", "i", "j", "label", "ll"]) (xs := []) (dx := []) (by rfl) (by kernel_rfl) (fun vs s hv _ => bind1 (fun v => by rfl) vs s hv) (fun _ _ => by simp only [RepL]) (by decide +kernel) rfl (by decide +kernel) (by decide +kernel) ?_
  intro f₀ ok
  refine Ex.assign ok 1 rfl (Ev.callB ok rfl gv_len kept_builtin (Evs.cons ok (Ev.name ok 0 rfl rfl) Evs.nil rfl) Bi.lenTup) ?_
  refine Ex.assign ok 2 rfl Ev.cint ?_
  refine Ex.assign ok 3 rfl (Ev.neg Ev.cint) ?_
  refine Ex.assign ok 4 rfl Ev.cint ?_
  let R : Int × Int × Int → En := fun t => [some (.sh (.tup (ls.map .bytes))), some (.sh (.int ((ls.map V.bytes).length : Int))), some (.sh (.int t.1)), some (.sh (.int t.2.1)), some (.sh (.int t.2.2)), none, none]
  refine Ex.seq (O₁ := fun o => o = .next (R (wire ls, fe ls, ls.length))) (Ex.for (τ := Int × Int × Int) ok 5 rfl (ItSrc.tup ok (Ev.name ok 0 rfl rfl)) R (fun k t => t = (wire (ls.take k), fe (ls.take k), (k : Int))) (0, -1, 0)
    (.keep (.keep (.keep (.keep (.keep (.drop (.drop .nil))))))) (by simp [wire, fe]) ?turn ?done) ?rest ?out
  case done => intro t hJ; subst hJ; simp
  case out => intro o h hn; exact (hn _ h).elim
  case turn =>
    intro k t d hd hJ
    obtain ⟨b, hb, rfl⟩ := bytes_at hd
    subst hJ
    have hm : b ∈ ls := List.mem_of_getElem? hb
    refine Ex.assign ok 6 rfl (Ev.callB ok rfl gv_len kept_builtin (Evs.cons ok (Ev.name ok 5 rfl rfl) Evs.nil rfl) Bi.lenBytes) ?_
    refine Ex.aug ok 2 rfl rfl (Ev.bin ok (Ev.name ok 6 rfl rfl) Ev.cint Op2.add) Op2.iadd ?_
    refine Ex.ifR ok (Te.cmp ok (Ev.name ok 6 rfl rfl) Ev.cint Op2.gt) (fun h => ?_) fun h => ?_
    · have := short b hm
      simp at h; omega
    refine Ex.ifJ ok (c := decide (fe (ls.take k) < 0) && (b == [])) ((R (wire (ls.take k) + ((b.length : Int) + 1), fe (ls.take (k + 1)), (k : Int))).set 5 (some (.sh (.bytes b))) |>.set 6 (some (.sh (.int (b.length : Int)))))
      (Te.bool (TAll.and_cons ok (Te.cmp ok (Ev.name ok 3 rfl rfl) Ev.cint Op2.lt) fun h => TAll.and1 ok (Te.cmp ok (Ev.name ok 5 rfl rfl) (Ev.cbytes (b := []) (by decide)) Op2.eqBy))) (fun h => ?_) (fun h => ?_) ?_
    · rw [fe_succ hb, if_pos (by simpa using h)]
      exact Ex.assign ok 3 rfl (Ev.name ok 4 rfl rfl) (Ex.nil rfl)
    · rw [fe_succ hb, if_neg (by simpa using h)]
      exact Ex.nil rfl
    · refine Ex.aug ok 4 rfl rfl Ev.cint Op2.iadd (Ex.nil ⟨(wire (ls.take k) + ((b.length : Int) + 1), fe (ls.take (k + 1)), (k : Int) + 1), ?_, .keep (.keep (.keep (.keep (.keep (.drop (.drop .nil))))))⟩)
      rw [wire_succ hb]; simp
  case rest =>
    intro ρ' h; injection h with h; subst h
    refine Ex.ifR ok (Te.cmp ok (Ev.name ok 2 rfl rfl) Ev.cint Op2.gt) (fun h => ?_) fun h => ?_
    · unfold validR; rw [if_pos (by simpa using h)]
      exact Ex.raiseOwn ok rfl excTooLong ⟨⟨_, rfl⟩, fun _ h => nomatch h⟩
    unfold validR; rw [if_neg (by simpa using h)]
    refine Ex.ifR ok (Te.bool (TAll.and_cons ok (Te.cmp ok (Ev.name ok 3 rfl rfl) Ev.cint Op2.ge) fun h => TAll.and1 ok (Te.cmp ok (Ev.name ok 3 rfl rfl) (Ev.bin ok (Ev.name ok 1 rfl rfl) Ev.cint Op2.sub) Op2.ne))) (fun h => ?_) fun h => Ex.nil (.inr ⟨rfl, _, rfl⟩)
    have := last
    simp at h; omega
end
theorem eq2 {α : Type} {vs : List α} (hv : vs.length = 2) : ∃ a b, vs = [a, b] := all2 (P := fun vs => ∃ a b, vs = [a, b]) (fun a b => ⟨a, b, rfl⟩) vs hv
theorem eq3 {α : Type} {vs : List α} (hv : vs.length = 3) : ∃ a b c, vs = [a, b, c] := all3 (P := fun vs => ∃ a b c, vs = [a, b, c]) (fun a b c => ⟨a, b, c, rfl⟩) vs hv
theorem bind2' {fd : FuncData} {a b : Str} (h : ∀ v u, bindArgs fd ⟨[v, u], []⟩ = pure [(a, v), (b, u)]) : ∀ (vs : List Value) (s : Shared), vs.length = 2 → BindsTo s fd ⟨vs, []⟩ ([a, b].zip vs) := by
  intro vs s hv
  refine all2 (P := fun vs => BindsTo s fd ⟨vs, []⟩ ([a, b].zip vs)) (fun v u => ?_) vs hv
  show BindsTo s fd ⟨[v, u], []⟩ ([a, b].zip [v, u])
  exact BindsTo.of_eq (h v u)
section
variable {g : GI} {f : Fm} {n : Nat} {ρ : En}
end
section
variable {gp : GP}
theorem gv_validate : GV (gi gp) "_validate_labels" (.ref 163) := GV.glob (by kernel_rfl) (by rfl)
theorem gv_maybe : GV (gi gp) "_maybe_convert_to_binary" (.ref 170) := GV.glob (by kernel_rfl) (by rfl)
theorem setK : SetK (gi gp) := ⟨by kernel_rfl, by kernel_rfl, by kernel_rfl, by kernel_rfl⟩
theorem labK : LabK (gi gp) := ⟨by kernel_rfl, by kernel_rfl, by kernel_rfl⟩
theorem Ex.exprR {g : GI} {f : Fm} {n : Nat} {ρ : En} {e : Expr} {spos : Pos} {rest : List Stmt} {r : Res} {O : Out → Prop} (ok : FmOk g f n) (he : Ev g f ρ e r) (hr : ∀ d, r = .ok d → d = .none) (h : ∀ d, r = .ok d → Ex g f ρ rest O) (hc : ∀ c, r = .exc c → O (.exc c ρ)) (hi : interactive f.env = false := by rfl) (hs : swapsWith e none spos.line f.env = pure false := by rfl) :
    Ex g f ρ (.Expr e spos :: rest) O := fun σ s Q E S q ex => by
  refine wpAny_execs_cons (wpAny_Expr (he σ s _ _ S (fun v d h' tk er k rep => ?_) fun c e' h' tk er fl => ?_) hi hs)
  · have := hr d er; subst this
    simp only [Rep] at rep; subst rep
    exact Ex.after (σ := σ) (ρ := ρ) (s := s) (h .none er) (S.mono ok k) k.trn q ex
  · exact ex c ρ e' h' tk (hc c er) ⟨σ, s.heap, S, Trn.refl .., .inl fl⟩
def nameR (tl : Addr) (ls : List (List UInt8)) : Res := if 255 < wire ls then .exc (.ref tl) else .ok (.name ls)
theorem fn_NameG {ls : List (List UInt8)} (short : ∀ b ∈ ls, b.length ≤ 63) (last : fe ls < 0 ∨ fe ls = (ls.length : Int) - 1) (hz : ls.length ≤ 1000) : Fn (gi gp) 5 (.ref 387) [.list (ls.map .bytes)] (nameR 106 ls) := by
  refine Fn.make (g := gi gp) (n := 3) (fI := 182) (names := ["self", "labels"]) (loc := ["blabels"]) (by kernel_rfl) (by kernel_rfl) (by kernel_rfl) (by rfl) (by kernel_rfl) (fun vs s hv _ => bind2' (fun v u => by rfl) vs s hv) (by decide +kernel) rfl (by decide +kernel) (by decide +kernel) ?_
  rintro ⟨⟨sc, lo, gl, ce, qu, fu, co, fr, bu⟩, A, st, ou, hE, xs, ys⟩ ok hs hx hy hc
  dsimp only at hs hx hy hc
  subst hs hx hy hc
  refine Ex.assignComp (es := ls.map .bytes) ok 2 rfl (CompOk.plainM ⟨by decide +kernel, by rfl, by decide +kernel, by rfl, by decide +kernel, by decide +kernel, fun y hy => nomatch hy⟩ (by decide +kernel) (ItSrc.list ok (Ev.name ok 1 rfl rfl)) (by simp; exact small_line hz) rfl ?_) ?_ (by rfl)
  · intro k d e hd he
    rw [hd] at he; injection he with he; subst he
    obtain ⟨b, hb, rfl⟩ := bytes_at hd
    intro f₀ ok'
    exact Ev.call ok' rfl gv_maybe (.inr (by kernel_rfl)) (by decide) (Evs.cons ok' (Ev.name ok' 0 rfl rfl) Evs.nil rfl) fn_maybe
  refine Ex.setLabels ok 0 rfl rfl setK (Ev.callB ok rfl gv_tuple kept_type (Evs.cons ok (Ev.name ok 2 rfl rfl) Evs.nil rfl) Bi.tupL) ?_
  have hv : (∀ d, validR 106 ls = .ok d → d = .none) ∧ (∀ c, validR 106 ls = .exc c → nameR 106 ls = .exc c) ∧ (∀ d, validR 106 ls = .ok d → nameR 106 ls = .ok (.name ls)) := by
    unfold validR nameR
    split
    · exact ⟨(fun d h => nomatch h), (fun c h => h), (fun d h => nomatch h)⟩
    · exact ⟨(fun d h => by injection h with h; exact h.symm), (fun c h => nomatch h), (fun d h => rfl)⟩
  refine Ex.exprR ok (Ev.call ok rfl gv_validate (.inr (by kernel_rfl)) (by decide) (Evs.cons ok (Ev.labelsMe ok labK 0 rfl rfl) Evs.nil rfl) (fn_validate short last)) hv.1 (fun d h => ?_) (fun c h => ?_)
  · rw [hv.2.2 d h]; exact Ex.nil ⟨_, rfl, rfl⟩
  · rw [hv.2.1 c h]; exact ⟨_, rfl⟩
theorem fn_NameT {ls : List (List UInt8)} (short : ∀ b ∈ ls, b.length ≤ 63) (last : fe ls < 0 ∨ fe ls = (ls.length : Int) - 1) (hz : ls.length ≤ 1000) : Fn (gi gp) 5 (.ref 387) [.tup (ls.map .bytes)] (nameR 106 ls) := by
  refine Fn.make (g := gi gp) (n := 3) (fI := 182) (names := ["self", "labels"]) (loc := ["blabels"]) (by kernel_rfl) (by kernel_rfl) (by kernel_rfl) (by rfl) (by kernel_rfl) (fun vs s hv _ => bind2' (fun v u => by rfl) vs s hv) (by decide +kernel) rfl (by decide +kernel) (by decide +kernel) ?_
  rintro ⟨⟨sc, lo, gl, ce, qu, fu, co, fr, bu⟩, A, st, ou, hE, xs, ys⟩ ok hs hx hy hc
  dsimp only at hs hx hy hc
  subst hs hx hy hc
  refine Ex.assignComp (es := ls.map .bytes) ok 2 rfl (CompOk.plainM ⟨by decide +kernel, by rfl, by decide +kernel, by rfl, by decide +kernel, by decide +kernel, fun y hy => nomatch hy⟩ (by decide +kernel) (ItSrc.tup ok (Ev.name ok 1 rfl rfl)) (by simp; exact small_line hz) rfl ?_) ?_ (by rfl)
  · intro k d e hd he
    rw [hd] at he; injection he with he; subst he
    obtain ⟨b, hb, rfl⟩ := bytes_at hd
    intro f₀ ok'
    exact Ev.call ok' rfl gv_maybe (.inr (by kernel_rfl)) (by decide) (Evs.cons ok' (Ev.name ok' 0 rfl rfl) Evs.nil rfl) fn_maybe
  refine Ex.setLabels ok 0 rfl rfl setK (Ev.callB ok rfl gv_tuple kept_type (Evs.cons ok (Ev.name ok 2 rfl rfl) Evs.nil rfl) Bi.tupL) ?_
  have hv : (∀ d, validR 106 ls = .ok d → d = .none) ∧ (∀ c, validR 106 ls = .exc c → nameR 106 ls = .exc c) ∧ (∀ d, validR 106 ls = .ok d → nameR 106 ls = .ok (.name ls)) := by
    unfold validR nameR
    split
    · exact ⟨(fun d h => nomatch h), (fun c h => h), (fun d h => nomatch h)⟩
    · exact ⟨(fun d h => by injection h with h; exact h.symm), (fun c h => nomatch h), (fun d h => rfl)⟩
  refine Ex.exprR ok (Ev.call ok rfl gv_validate (.inr (by kernel_rfl)) (by decide) (Evs.cons ok (Ev.labelsMe ok labK 0 rfl rfl) Evs.nil rfl) (fn_validate short last)) hv.1 (fun d h => ?_) (fun c h => ?_)
  · rw [hv.2.2 d h]; exact Ex.nil ⟨_, rfl, rfl⟩
  · rw [hv.2.1 c h]; exact ⟨_, rfl⟩
theorem fn_Name {ls : List (List UInt8)} (hl : Lawful ls) (hz : ls.length ≤ 1000) : Fn (gi gp) 5 (.ref 387) [.list (ls.map .bytes)] (.ok (.name ls)) := by
  have h := fn_NameG (gp := gp) hl.short hl.last hz
  unfold nameR at h
  rwa [if_neg (by have := hl.small; omega)] at h
end
section
variable {gp : GP}
theorem gv_NR : GV (gi gp) "NameRelation" (.ref 68) := GV.glob (by kernel_rfl) (by rfl)
theorem nr_reads : readsIn (gi gp).K 68 (.type "type") = true := by kernel_rfl
theorem nr_none : ∃ tk, findCls (gi gp).K (.ref 68) (.type "type") "NONE" = some (.val (.int 0 tk)) := ⟨_, by rfl⟩
theorem fn_is_abs {ls : List (List UInt8)} : Fn (gi gp) 2 (.ref 189) [.name ls] (.ok (.bool (absL ls))) := by
  refine Fn.introM (n := 1) (names := ["self"]) (loc := []) (xs := []) (dx := []) (by rfl) (by kernel_rfl) (fun vs s hv _ => bind1 (fun v => by rfl) vs s hv) (fun _ _ => by simp only [RepL]) (by decide +kernel) rfl (by decide +kernel) (by decide +kernel) ?_
  intro f₀ ok
  refine Ex.retV ok ?_
  rw [← absL_eq]
  refine Ev.boolop (BAll.and_cons ok (Ev.cmp ok (Ev.callB ok rfl gv_len kept_builtin (Evs.cons ok (Ev.labels ok labK (Ev.name ok 0 rfl rfl)) Evs.nil rfl) Bi.lenTup) Ev.cint Op2.gt) fun h => BAll.one (Ev.cmp ok (Ev.sub ok (Ev.labels ok labK (Ev.name ok 0 rfl rfl)) (Ev.neg Ev.cint) (.inr (.inl rfl)) (Op2.itemTup (last_at ?_) ?_)) (Ev.cbytes (by decide)) Op2.eqBy))
  · simpa using h
  · simp at h ⊢; omega
def wildL (ls : List (List UInt8)) : Bool := ls.head? == some [42]
end
section
variable {g : GI} {f : Fm} {n : Nat} {ρ : En}
theorem Ex.ifE {t : Expr} {a b rest : List Stmt} {pos : Pos} {c : Bool} {O : Out → Prop} {Pc : Prop} (ok : FmOk g f n) (ht : Te g f ρ t c) (ha : c = true → Ex g f ρ a (NoN O)) (hb : c = false → Ex g f ρ b (fun o => NoN O o ∨ (o = .next ρ ∧ Pc))) (h : Pc → Ex g f ρ rest O) : Ex g f ρ (.If t a b pos :: rest) O :=
  Ex.iff ok ht (fun o => NoN O o ∨ (o = .next ρ ∧ Pc)) (fun h => (ha h).mono fun o => .inl) hb
    (fun ρ' h' => h'.elim (fun h' => (h'.2 _ rfl).elim) fun ⟨e, hp⟩ => by injection e with e; subst e; exact h hp) fun o h' hn => h'.elim (·.1) fun h' => (hn _ h'.1).elim
end
def fcGo : List (List UInt8) → List (List UInt8) → Int → Int → Int × Int × Int
  | x :: xs, y :: ys, k, ld => if (bord (blow x) (blow y) == .lt) = true then (if k > 0 then 4 else 0, -1, k) else if (bord (blow x) (blow y) == .gt) = true then (if k > 0 then 4 else 0, 1, k) else fcGo xs ys (k + 1) ld
  | _, _, k, ld => (if ld < 0 then 1 else if ld > 0 then 2 else 3, ld, k)
def fc (a b : List (List UInt8)) : Int × Int × Int :=
  if (!(absL a == absL b)) = true then (if absL a = true then (0, 1, 0) else (0, -1, 0)) else fcGo a.reverse b.reverse 0 ((a.length : Int) - b.length)
def fcV (t : Int × Int × Int) : V := .tup [.int t.1, .int t.2.1, .int t.2.2]
theorem rev_drop {a : List (List UInt8)} {k : Nat} (h : k < a.length) : ∃ x, a.reverse.drop k = x :: a.reverse.drop (k + 1) ∧ (a.map V.bytes)[vidx (a.map V.bytes).length ((a.length : Int) - k - 1)]? = some (.bytes x) := by
  have hk : k < a.reverse.length := by simpa using h
  refine ⟨a.reverse[k], List.drop_eq_getElem_cons hk, ?_⟩
  have e : vidx (a.map V.bytes).length ((a.length : Int) - k - 1) = a.length - 1 - k := by
    rw [show (a.length : Int) - k - 1 = ((a.length - 1 - k : Nat) : Int) by omega]; rfl
  rw [e, List.getElem?_map, List.getElem?_eq_getElem (by omega)]
  simp [List.getElem_reverse]
section
variable {gp : GP}
theorem nr_super : ∃ tk, findCls (gi gp).K (.ref 68) (.type "type") "SUPERDOMAIN" = some (.val (.int 1 tk)) := ⟨_, by rfl⟩
theorem nr_sub : ∃ tk, findCls (gi gp).K (.ref 68) (.type "type") "SUBDOMAIN" = some (.val (.int 2 tk)) := ⟨_, by rfl⟩
theorem nr_equal : ∃ tk, findCls (gi gp).K (.ref 68) (.type "type") "EQUAL" = some (.val (.int 3 tk)) := ⟨_, by rfl⟩
theorem nr_common : ∃ tk, findCls (gi gp).K (.ref 68) (.type "type") "COMMONANCESTOR" = some (.val (.int 4 tk)) := ⟨_, by rfl⟩
theorem isAbsM : MethK (gi gp) "is_absolute" 189 := ⟨by kernel_rfl, by kernel_rfl, by kernel_rfl, by kernel_rfl, by kernel_rfl, by decide +kernel⟩
section
variable {f : Fm} {n : Nat} {ρ : En}
theorem Ev.nr {name : Str} {np pos : Pos} {k : Int} (ok : FmOk (gi gp) f n) (hx : f.env.kindOf "NameRelation" = some .globalImplicit) (h : ∃ tk, findCls (gi gp).K (.ref 68) (.type "type") name = some (.val (.int k tk)))
    (he : eval (.Attribute (.Name "NameRelation" np) name pos) f.env = (do
      let o' ← eval (.Name "NameRelation" np) f.env
      standAt pos.atName
      let r ← holding [o'] (getAttr o' name true)
      letTemporaryGo (.Name "NameRelation" np) o' r
      pure r) := by rfl) : Ev (gi gp) f ρ (.Attribute (.Name "NameRelation" np) name pos) (.ok (.int k)) := by
  obtain ⟨tk, h⟩ := h
  exact Ev.clsAttr ok hx gv_NR nr_reads h rfl he
end
theorem fn_fc {a b : List (List UInt8)} (ha : a.length ≤ 1000) (hb : b.length ≤ 1000) : Fn (gi gp) 4 (.ref 203) [.name a, .name b] (.ok (fcV (fc a b))) := by
  refine Fn.introM (n := 3) (names := ["self", "other"]) (loc := ["sabs", "oabs", "l1", "l2", "ldiff", "l", "order", "nlabels", "namereln", "label1", "label2"]) (xs := []) (dx := []) (by rfl) (by kernel_rfl) (fun vs s hv _ => bind2 (fun v u => by rfl) vs s hv) (fun _ _ => by simp only [RepL]) (by decide +kernel) rfl (by decide +kernel) (by decide +kernel) ?_
  intro f₀ ok
  refine Ex.assign ok 2 rfl (Ev.meth0 ok isAbsM (by decide) (Ev.name ok 0 rfl rfl) fn_is_abs) ?_
  refine Ex.assign ok 3 rfl (Ev.meth0 ok isAbsM (by decide) (Ev.name ok 1 rfl rfl) fn_is_abs) ?_
  refine Ex.ifR ok (Te.cmp ok (Ev.name ok 2 rfl rfl) (Ev.name ok 3 rfl rfl) Op2.neBo) (fun h => ?_) fun h => ?_
  · unfold fc; rw [if_pos h]
    refine Ex.ite ok (Te.val (Ev.name ok 2 rfl rfl)) (fun h => ?_) (fun h => ?_)
    · rw [if_pos h]
      exact Ex.retN ok (Ev.tupD ok (Evs.cons ok (Ev.nr ok rfl nr_none) (Evs.cons ok Ev.cint (Evs.cons ok Ev.cint Evs.nil rfl) rfl) rfl) (by decide)) retO
    · rw [if_neg (by simp [h])]
      exact Ex.retN ok (Ev.tupD ok (Evs.cons ok (Ev.nr ok rfl nr_none) (Evs.cons ok (Ev.neg Ev.cint) (Evs.cons ok Ev.cint Evs.nil rfl) rfl) rfl) (by decide)) retO
  have hfc : fc a b = fcGo a.reverse b.reverse 0 ((a.length : Int) - b.length) := by unfold fc; rw [if_neg (by simp [h])]
  rw [hfc]
  refine Ex.assign ok 4 rfl (Ev.callB ok rfl gv_len kept_builtin (Evs.cons ok (Ev.labels ok labK (Ev.name ok 0 rfl rfl)) Evs.nil rfl) Bi.lenTup) ?_
  refine Ex.assign ok 5 rfl (Ev.callB ok rfl gv_len kept_builtin (Evs.cons ok (Ev.labels ok labK (Ev.name ok 1 rfl rfl)) Evs.nil rfl) Bi.lenTup) ?_
  refine Ex.assign ok 6 rfl (Ev.bin ok (Ev.name ok 4 rfl rfl) (Ev.name ok 5 rfl rfl) Op2.sub) ?_
  simp only [List.length_map]
  let R : Int × Int × Int × Int → En := fun t => [some (.sh (.name a)), some (.sh (.name b)), none, none, some (.sh (.int t.1)), some (.sh (.int t.2.1)), some (.sh (.int ((a.length : Int) - b.length))), some (.sh (.int t.2.2.1)), some (.sh (.int 0)), some (.sh (.int t.2.2.2)), some (.sh (.int 0)), none, none]
  refine Ex.ifJ ok (ρ' := [some (.sh (.name a)), some (.sh (.name b)), some (.sh (.bool (absL a))), some (.sh (.bool (absL b))), some (.sh (.int (a.length : Int))), some (.sh (.int (b.length : Int))), some (.sh (.int ((a.length : Int) - b.length))), some (.sh (.int ((min a.length b.length : Nat) : Int))), none, none, none, none, none])
    (Te.cmp ok (Ev.name ok 6 rfl rfl) Ev.cint Op2.lt) (fun h => ?_) (fun h => ?_) ?_
  · rw [show ((min a.length b.length : Nat) : Int) = (a.length : Int) by simp at h; omega]
    exact Ex.assign ok 7 rfl (Ev.name ok 4 rfl rfl) (Ex.nil rfl)
  · rw [show ((min a.length b.length : Nat) : Int) = (b.length : Int) by simp at h; omega]
    exact Ex.assign ok 7 rfl (Ev.name ok 5 rfl rfl) (Ex.nil rfl)
  refine Ex.assign ok 8 rfl Ev.cint ?_
  refine Ex.assign ok 9 rfl Ev.cint ?_
  refine Ex.assign ok 10 rfl (Ev.nr ok rfl nr_none) ?_
  generalize hld : (a.length : Int) - b.length = ld at *
  let N : Nat := min a.length b.length
  let R : Nat → En := fun k => [some (.sh (.name a)), some (.sh (.name b)), none, none, some (.sh (.int ((a.length : Int) - k))), some (.sh (.int ((b.length : Int) - k))), some (.sh (.int ld)), some (.sh (.int ((N : Int) - k))), some (.sh (.int 0)), some (.sh (.int k)), some (.sh (.int 0)), none, none]
  let J : Nat → Prop := fun k => k ≤ N ∧ fcGo a.reverse b.reverse 0 ld = fcGo (a.reverse.drop k) (b.reverse.drop k) k ld
  refine Ex.seq (O₁ := fun o => NoN (RetO (.ok (fcV (fcGo a.reverse b.reverse 0 ld)))) o ∨ ∃ k, o = .next (R k) ∧ J k ∧ k = N)
    (Ex.while ok R J (fun k => N - k) 0 ?h0 ⟨Nat.zero_le _, rfl⟩ (fun k => decide ((0 : Int) < (N : Int) - k)) (fun k hJ => Te.cmp ok (Ev.name ok 7 rfl rfl) Ev.cint Op2.gt) ?turn ?done) ?rest ?out
  case h0 =>
    show Weak _ (R 0)
    simp only [R, Int.natCast_zero, Int.sub_zero]
    exact .keep (.keep (.drop (.drop (.keep (.keep (.keep (.keep (.keep (.keep (.keep (.drop (.drop .nil))))))))))))
  case done =>
    intro k hJ hc
    refine .inr ⟨k, rfl, hJ, ?_⟩
    have := hJ.1
    simp at hc; omega
  case out =>
    intro o h hn
    rcases h with h | ⟨k, rfl, _⟩
    · exact h.1
    · exact (hn _ rfl).elim
  case turn =>
    intro k hJ hc
    obtain ⟨hk, hgo⟩ := hJ
    have hkN : k < N := by simp at hc; omega
    have hka : k < a.length := Nat.lt_of_lt_of_le hkN (Nat.min_le_left _ _)
    have hkb : k < b.length := Nat.lt_of_lt_of_le hkN (Nat.min_le_right _ _)
    obtain ⟨x, ex, ix⟩ := rev_drop hka
    obtain ⟨y, ey, iy⟩ := rev_drop hkb
    rw [ex, ey] at hgo
    refine Ex.aug ok 7 rfl rfl Ev.cint Op2.isub ?_
    refine Ex.aug ok 4 rfl rfl Ev.cint Op2.isub ?_
    refine Ex.aug ok 5 rfl rfl Ev.cint Op2.isub ?_
    refine Ex.assign ok 11 rfl (Ev.lower ok (Ev.sub ok (Ev.labels ok labK (Ev.name ok 0 rfl rfl)) (Ev.name ok 4 rfl rfl) (.inr (.inl rfl)) (Op2.itemTup ix (by simp; omega)))) ?_
    refine Ex.assign ok 12 rfl (Ev.lower ok (Ev.sub ok (Ev.labels ok labK (Ev.name ok 1 rfl rfl)) (Ev.name ok 5 rfl rfl) (.inr (.inl rfl)) (Op2.itemTup iy (by simp; omega)))) ?_
    simp only [fcGo] at hgo
    refine Ex.ifE (Pc := (bord (blow x) (blow y) == .lt) = false ∧ (bord (blow x) (blow y) == .gt) = false) ok (Te.cmp ok (Ev.name ok 11 rfl rfl) (Ev.name ok 12 rfl rfl) Op2.ltB) (fun h => ?_) (fun h => ?_) (fun h => ?_)
    · refine Ex.assign ok 8 rfl (Ev.neg Ev.cint) ?_
      refine Ex.ifJ ok (c := decide ((0 : Int) < (k : Int))) (ρ' := [none, none, none, none, none, none, none, none, some (.sh (.int (-1))), some (.sh (.int k)), some (.sh (.int (if (k : Int) > 0 then 4 else 0))), none, none]) (Te.cmp ok (Ev.name ok 9 rfl rfl) Ev.cint Op2.gt) (fun hk0 => ?_) (fun hk0 => ?_) ?_
      · rw [if_pos (by simpa using hk0)]
        exact Ex.assign ok 10 rfl (Ev.nr ok rfl nr_common) (Ex.weak (by repeat (first | exact .nil | refine .keep ?_ | refine .drop ?_)) (Ex.nil rfl))
      · rw [if_neg (by simpa using hk0)]
        exact Ex.weak (by repeat (first | exact .nil | refine .keep ?_ | refine .drop ?_)) (Ex.nil rfl)
      · rw [hgo, if_pos h]
        exact Ex.retN ok (Ev.tupD ok (Evs.cons ok (Ev.name ok 10 rfl rfl) (Evs.cons ok (Ev.name ok 8 rfl rfl) (Evs.cons ok (Ev.name ok 9 rfl rfl) Evs.nil rfl) rfl) rfl) (Nat.le_of_ble_eq_true rfl)) (.inl ⟨retO, fun _ h => nomatch h⟩)
    · refine Ex.ifR ok (Te.cmp ok (Ev.name ok 11 rfl rfl) (Ev.name ok 12 rfl rfl) Op2.gtB) (fun h' => ?_) (fun h' => Ex.nil (.inr ⟨rfl, h, h'⟩))
      refine Ex.assign ok 8 rfl Ev.cint ?_
      refine Ex.ifJ ok (c := decide ((0 : Int) < (k : Int))) (ρ' := [none, none, none, none, none, none, none, none, some (.sh (.int 1)), some (.sh (.int k)), some (.sh (.int (if (k : Int) > 0 then 4 else 0))), none, none]) (Te.cmp ok (Ev.name ok 9 rfl rfl) Ev.cint Op2.gt) (fun hk0 => ?_) (fun hk0 => ?_) ?_
      · rw [if_pos (by simpa using hk0)]
        exact Ex.assign ok 10 rfl (Ev.nr ok rfl nr_common) (Ex.weak (by repeat (first | exact .nil | refine .keep ?_ | refine .drop ?_)) (Ex.nil rfl))
      · rw [if_neg (by simpa using hk0)]
        exact Ex.weak (by repeat (first | exact .nil | refine .keep ?_ | refine .drop ?_)) (Ex.nil rfl)
      · rw [hgo, if_neg (show ¬((bord (blow x) (blow y) == .lt) = true) by simp [h]), if_pos h']
        exact Ex.retN ok (Ev.tupD ok (Evs.cons ok (Ev.name ok 10 rfl rfl) (Evs.cons ok (Ev.name ok 8 rfl rfl) (Evs.cons ok (Ev.name ok 9 rfl rfl) Evs.nil rfl) rfl) rfl) (Nat.le_of_ble_eq_true rfl)) (.inl ⟨.inl ⟨retO, fun _ h => nomatch h⟩, fun _ h => nomatch h⟩)
    · refine Ex.aug ok 9 rfl rfl Ev.cint Op2.iadd (Ex.nil ⟨k + 1, ⟨hkN, ?_⟩, Nat.sub_succ_lt_self _ _ hkN, ?_⟩)
      · rw [hgo, if_neg (by simp [h.1]), if_neg (by simp [h.2])]
        simp
      · have e : R (k + 1) = [some (.sh (.name a)), some (.sh (.name b)), none, none, some (.sh (.int ((a.length : Int) - k - 1))), some (.sh (.int ((b.length : Int) - k - 1))), some (.sh (.int ld)), some (.sh (.int ((N : Int) - k - 1))), some (.sh (.int 0)), some (.sh (.int (k + 1))), some (.sh (.int 0)), none, none] := by
          simp only [R, Int.natCast_add, Int.natCast_one, Int.sub_sub]
        rw [e]
        repeat (first | exact .nil | refine .keep ?_ | refine .drop ?_)
  case rest =>
    rintro ρ' (h | ⟨k, h, ⟨hk, hgo⟩, rfl⟩)
    · exact (h.2 _ rfl).elim
    injection h with h; subst h
    have hend : fcGo (a.reverse.drop N) (b.reverse.drop N) N ld = (if ld < 0 then 1 else if ld > 0 then 2 else 3, ld, (N : Int)) := by
      have : a.reverse.drop N = [] ∨ b.reverse.drop N = [] := by
        simp only [List.drop_eq_nil_iff, List.length_reverse]; omega
      rcases this with e | e <;> rw [e]
      · simp [fcGo]
      · cases a.reverse.drop N <;> simp [fcGo]
    rw [hgo, hend]
    refine Ex.assign ok 8 rfl (Ev.name ok 6 rfl rfl) ?_
    refine Ex.ifJ ok (ρ' := [none, none, none, none, none, none, none, none, some (.sh (.int ld)), some (.sh (.int N)), some (.sh (.int (if ld < 0 then 1 else if ld > 0 then 2 else 3))), none, none]) (Te.cmp ok (Ev.name ok 6 rfl rfl) Ev.cint Op2.lt) (fun h => ?_) (fun h => ?_) ?_
    · rw [if_pos (by simpa using h)]
      exact Ex.assign ok 10 rfl (Ev.nr ok rfl nr_super) (Ex.weak (by repeat (first | exact .nil | refine .keep ?_ | refine .drop ?_)) (Ex.nil rfl))
    · rw [if_neg (by simpa using h)]
      refine Ex.ite ok (Te.cmp ok (Ev.name ok 6 rfl rfl) Ev.cint Op2.gt) (fun h => ?_) (fun h => ?_)
      · rw [if_pos (by simpa using h)]
        exact Ex.assign ok 10 rfl (Ev.nr ok rfl nr_sub) (Ex.weak (by repeat (first | exact .nil | refine .keep ?_ | refine .drop ?_)) (Ex.nil rfl))
      · rw [if_neg (by simpa using h)]
        exact Ex.assign ok 10 rfl (Ev.nr ok rfl nr_equal) (Ex.weak (by repeat (first | exact .nil | refine .keep ?_ | refine .drop ?_)) (Ex.nil rfl))
    · exact Ex.retV ok (Ev.tupD ok (Evs.cons ok (Ev.name ok 10 rfl rfl) (Evs.cons ok (Ev.name ok 8 rfl rfl) (Evs.cons ok (Ev.name ok 9 rfl rfl) Evs.nil rfl) rfl) rfl) (Nat.le_of_ble_eq_true rfl))
end
section
variable {gp : GP}
theorem fcM : MethK (gi gp) "fullcompare" 203 := ⟨by kernel_rfl, by kernel_rfl, by kernel_rfl, by kernel_rfl, by kernel_rfl, by decide +kernel⟩
theorem nameIs : isIn (gi gp).K (.ref 387) 387 = true := by kernel_rfl
theorem fn_is_sub {a b : List (List UInt8)} (ha : a.length ≤ 1000) (hb : b.length ≤ 1000) : Fn (gi gp) 5 (.ref 210) [.name a, .name b] (.ok (.bool (decide ((fc a b).1 = 2) || decide ((fc a b).1 = 3)))) := by
  refine Fn.introM (n := 4) (names := ["self", "other"]) (loc := ["nr", "_"]) (xs := []) (dx := []) (by rfl) (by kernel_rfl) (fun vs s hv _ => bind2 (fun v u => by rfl) vs s hv) (fun _ _ => by simp only [RepL]) (by decide +kernel) rfl (by decide +kernel) (by decide +kernel) ?_
  intro f₀ ok
  refine Ex.unpack3 ok 2 3 3 rfl rfl rfl (Ev.meth ok fcM (by decide) (Ev.name ok 0 rfl rfl) (Evs.cons ok (Ev.name ok 1 rfl rfl) Evs.nil rfl) (fn_fc ha hb)) ?_
  refine Ex.ifR ok (Te.bool (TAll.or_cons ok (Te.cmp ok (Ev.name ok 2 rfl rfl) (Ev.nr ok rfl nr_sub) Op2.eq) fun _ => TAll.or1 ok (Te.cmp ok (Ev.name ok 2 rfl rfl) (Ev.nr ok rfl nr_equal) Op2.eq))) (fun h => ?_) (fun h => ?_)
  · rw [h]; exact Ex.retN ok Ev.cbool retO
  · rw [h]; exact Ex.retV ok Ev.cbool
theorem fn_eqN {a b : List (List UInt8)} (ha : a.length ≤ 1000) (hb : b.length ≤ 1000) : Fn (gi gp) 5 (.ref 231) [.name a, .name b] (.ok (.bool (decide ((fc a b).2.1 = 0)))) := by
  refine Fn.introM (n := 4) (names := ["self", "other"]) (loc := []) (xs := []) (dx := []) (by rfl) (by kernel_rfl) (fun vs s hv _ => bind2 (fun v u => by rfl) vs s hv) (fun _ _ => by simp only [RepL]) (by decide +kernel) rfl (by decide +kernel) (by decide +kernel) ?_
  intro f₀ ok
  refine Ex.ite ok (Te.val (Ev.isInst ok rfl gv_isinstance rfl gv_Name (Ev.name ok 1 rfl rfl) (.inr ⟨_, rfl, rfl, nameIs⟩))) (fun _ => ?_) (fun h => nomatch h)
  exact Ex.retV ok (Ev.cmp ok (Ev.sub ok (Ev.meth ok fcM (by decide) (Ev.name ok 0 rfl rfl) (Evs.cons ok (Ev.name ok 1 rfl rfl) Evs.nil rfl) (fn_fc ha hb)) Ev.cint (.inr (.inl rfl)) (Op2.itemTup (i := 1) (d := .int (fc a b).2.1) rfl (by simp))) Ev.cint Op2.eq)
theorem fn_neN {a b : List (List UInt8)} (ha : a.length ≤ 1000) (hb : b.length ≤ 1000) : Fn (gi gp) 5 (.ref 238) [.name a, .name b] (.ok (.bool (decide ((fc a b).2.1 ≠ 0)))) := by
  refine Fn.introM (n := 4) (names := ["self", "other"]) (loc := []) (xs := []) (dx := []) (by rfl) (by kernel_rfl) (fun vs s hv _ => bind2 (fun v u => by rfl) vs s hv) (fun _ _ => by simp only [RepL]) (by decide +kernel) rfl (by decide +kernel) (by decide +kernel) ?_
  intro f₀ ok
  refine Ex.ite ok (Te.val (Ev.isInst ok rfl gv_isinstance rfl gv_Name (Ev.name ok 1 rfl rfl) (.inr ⟨_, rfl, rfl, nameIs⟩))) (fun _ => ?_) (fun h => nomatch h)
  exact Ex.retV ok (Ev.cmp ok (Ev.sub ok (Ev.meth ok fcM (by decide) (Ev.name ok 0 rfl rfl) (Evs.cons ok (Ev.name ok 1 rfl rfl) Evs.nil rfl) (fn_fc ha hb)) Ev.cint (.inr (.inl rfl)) (Op2.itemTup (i := 1) (d := .int (fc a b).2.1) rfl (by simp))) Ev.cint Op2.ne)
end
def smallI (c : UInt8) : Int := if (decide ((65 : Int) ≤ (c.toNat : Int)) && decide ((c.toNat : Int) ≤ 90)) = true then (c.toNat : Int) + 32 else c.toNat
def capI (c : UInt8) : Int := if (decide ((97 : Int) ≤ (c.toNat : Int)) && decide ((c.toNat : Int) ≤ 122)) = true then (c.toNat : Int) - 32 else c.toNat
def keyI (c : UInt8) : Int := if (decide ((65 : Int) ≤ (c.toNat : Int)) && decide ((c.toNat : Int) ≤ 90)) = true then (c.toNat : Int) + 33 else (c.toNat : Int) + 1
def bup (b : List UInt8) : List UInt8 := bytesOf (b.map capI)
theorem u8all {P : UInt8 → Prop} (h : ∀ n : Nat, n < 256 → P n.toUInt8) (c : UInt8) : P c := by
  have e : c.toNat.toUInt8 = c := by simp
  exact e ▸ h c.toNat c.toNat_lt
theorem smallI_lt (c : UInt8) : 0 ≤ smallI c ∧ smallI c < 256 := u8all (P := fun c => 0 ≤ smallI c ∧ smallI c < 256) (by decide +kernel) c
theorem capI_lt (c : UInt8) : 0 ≤ capI c ∧ capI c < 256 := u8all (P := fun c => 0 ≤ capI c ∧ capI c < 256) (by decide +kernel) c
theorem small_low (c : UInt8) : (smallI c).toNat.toUInt8 = Builtin.Bytes.toLower c := u8all (P := fun c => (smallI c).toNat.toUInt8 = Builtin.Bytes.toLower c) (by decide +kernel) c
theorem small_blow (b : List UInt8) : bytesOf (b.map smallI) = blow b := by
  unfold bytesOf blow
  rw [List.map_map]
  exact List.map_congr_left fun c _ => small_low c
section
variable {gp : GP}
theorem vb_at {b : List UInt8} {k : Nat} {d : V} (h : (vbytes b)[k]? = some d) : ∃ c, b[k]? = some c ∧ d = .int (c.toNat : Int) := by
  simp only [vbytes, List.getElem?_map, Option.map_eq_some_iff] at h
  obtain ⟨c, e, rfl⟩ := h; exact ⟨c, e, rfl⟩
theorem fn_small {ls : List (List UInt8)} (hz : ls.length ≤ 1000) (hb : ∀ b ∈ ls, b.length ≤ 1000) : Fn (gi gp) 1 (.ref 519) [.list (ls.map .bytes)] (.ok (.list ((ls.map blow).map .bytes))) := by
  refine Fn.introM (n := 0) (names := ["labels"]) (loc := []) (xs := []) (dx := []) (by rfl) (by kernel_rfl) (fun vs s hv _ => bind1 (fun v => by rfl) vs s hv) (fun _ _ => by simp only [RepL]) (by decide +kernel) rfl (by decide +kernel) (by decide +kernel) ?_
  intro f₀ ok
  refine Ex.retV ok (Ev.comp ok (CompOk.plainM ⟨by decide +kernel, by rfl, by decide +kernel, by rfl, by decide +kernel, by decide +kernel, fun y hy => nomatch hy⟩ (by decide +kernel) (ItSrc.list ok (Ev.name ok 0 rfl rfl)) (by simp; exact small_line hz) (by simp) ?_))
  intro k d e hd he
  obtain ⟨b, hbk, rfl⟩ := bytes_at hd
  have : e = .bytes (blow b) := by
    simp only [List.map_map, List.getElem?_map, hbk] at he; simp at he; exact he.symm
  subst this
  have hbl := hb b (List.mem_of_getElem? hbk)
  intro f₀ ok'
  rw [← small_blow]
  refine Ev.callB ok' rfl gv_bytes kept_type (Evs.cons ok' (Ev.comp (es := (b.map smallI).map .int) ok' (CompOk.plainM ⟨by decide +kernel, by rfl, by decide +kernel, by rfl, by decide +kernel, by decide +kernel, fun y hy => nomatch hy⟩ (by decide +kernel) (ItSrc.bytes ok' (Ev.name ok' 0 rfl rfl)) (by simp [vbytes]; exact small_line hbl) (by simp [vbytes]) ?_)) Evs.nil rfl) (Bi.bytesL fun i hi => ?_)
  · intro k d e hd he
    obtain ⟨c, hc, rfl⟩ := vb_at hd
    have : e = .int (smallI c) := by
      simp only [List.map_map, List.getElem?_map, hc] at he; simp at he; exact he.symm
    subst this
    intro f₀ ok''
    have e : V.int (smallI c) = if (decide ((65 : Int) ≤ (c.toNat : Int)) && decide ((c.toNat : Int) ≤ 90)) = true then V.int ((c.toNat : Int) + 32) else V.int c.toNat := by unfold smallI; split <;> rfl
    rw [e]
    exact Ev.iteOk ok'' (Te.chain ok'' Ev.cint (Ev.name ok'' 0 rfl rfl) (fun _ => Ev.cint) Op2.le fun _ => Op2.le) (fun _ => Ev.bin ok'' (Ev.name ok'' 0 rfl rfl) Ev.cint Op2.add) (fun _ => Ev.name ok'' 0 rfl rfl)
  · obtain ⟨c, _, rfl⟩ := List.mem_map.mp hi
    exact smallI_lt c
end
def rowL (ls : List (List UInt8)) : List Int := ls.foldl (fun acc b => b.map keyI ++ [0] ++ acc) []
theorem rowL_succ {ls : List (List UInt8)} {k : Nat} {b : List UInt8} (h : ls[k]? = some b) : rowL (ls.take (k + 1)) = b.map keyI ++ [0] ++ rowL (ls.take k) := by
  unfold rowL
  rw [List.take_add_one, h]; simp
theorem rowL_len (ls : List (List UInt8)) : ((rowL ls).length : Int) = wire ls := by
  unfold rowL wire
  suffices h : ∀ (acc : List Int), ((ls.foldl (fun acc b => b.map keyI ++ [0] ++ acc) acc).length : Int) = acc.length + (ls.map fun l => (l.length : Int) + 1).sum by simpa using h []
  induction ls with
  | nil => intro acc; simp
  | cons b r ih => intro acc; simp only [List.foldl_cons, List.map_cons, List.sum_cons]; rw [ih]; simp; omega
theorem wire_nonneg : ∀ (ls : List (List UInt8)), 0 ≤ wire ls
  | [] => by simp [wire]
  | b :: r => by have := wire_nonneg r; unfold wire at *; simp; omega
theorem wire_app (a b : List (List UInt8)) : wire (a ++ b) = wire a + wire b := by unfold wire; simp
theorem wire_take (ls : List (List UInt8)) (k : Nat) : wire (ls.take k) ≤ wire ls := by
  have h := wire_app (ls.take k) (ls.drop k)
  rw [List.take_append_drop] at h
  have := wire_nonneg (ls.drop k)
  omega
section
variable {gp : GP}
end
theorem slc_map {α β : Type} (f : α → β) (l : List α) (lo hi : Option Int) : slc (l.map f) lo hi = (slc l lo hi).map f := by
  unfold slc; simp [List.map_take, List.map_drop]
section
variable {gp : GP}
end
section
variable {g : GI} {f : Fm} {n : Nat} {ρ : En}
theorem Ev.subScr {value slice : Expr} {pos : Pos} {ns : List Int} {i : Int} {k : Int} (ok : FmOk g f n) (ho : Ev g f ρ value (.ok (.scr ns))) (hi : Ev g f ρ slice (.ok (.int i))) (h0 : 0 ≤ i) (hk : ns[i.toNat]? = some k)
    (hs : ∀ o i, subscripted slice false o i = operate [o, i] (getItem o i) := by intro _ _; rfl) : Ev g f ρ (.Subscript value slice pos) (.ok (.int k)) := fun σ s Q E S q ex => by
  refine Subscript_ (ho σ s _ _ S (fun v d h₁ t₁ e k₁ r₁ => ?_) fun c e' h' tk ec => nomatch ec)
  injection e with e; subst e
  refine hi σ _ _ _ (S.mono ok k₁) (fun u d h₂ t₂ e k₂ r₂ => ?_) fun c e' h' tk ec => nomatch ec
  injection e with e; subst e
  have rv := rmono S r₁ k₂
  simp only [Rep] at rv r₂
  obtain ⟨a, o, us, m, rfl, ha, hc, hd, hI, hl⟩ := rv
  obtain ⟨t, rfl⟩ := r₂
  have hlen : us.length = ns.length := hI.length
  have hb : us.length ≤ 2 ^ 24 := hl
  have hin : i.toNat < ns.length := (List.getElem?_eq_some_iff.mp hk).1
  obtain ⟨tk, et⟩ := intsAre_get hI hin
  have ek : ns[i.toNat] = k := (List.getElem?_eq_some_iff.mp hk).2
  have hlist : h₂.IsList a us.toArray := ⟨o, ha.1, hc, m, hd⟩
  refine tail_any (s := { s with heap := h₂, toks := t₂ }) (T := "list") ⟨o, ha.1, hc⟩ slot_list_getitem.lookup ?_ (hs _ _)
  exact wpAny_getItem_list (s := { s with heap := h₂, toks := t₂ }) hlist h0 (by omega) (x := .int k tk) (by rw [← ek]; simpa using et) (q _ _ h₂ t₂ rfl (k₁.trans k₂) (by simp only [Rep]; exact ⟨tk, rfl⟩))
end
theorem bits64 : ∀ j : Nat, j < 64 → Builtin.Int.intBits (j : Int) ≤ 64 := by decide +kernel
def drawL (ns : List Int) (i : Nat) : Int := if decide ((i : Int) < (ns.length : Int)) = true then (ns.getD i 0).fmod (256 ^ 256) else 97 * i * i + 61 * i + 30
section
variable {gp : GP}
theorem fn_draw {ns : List Int} {i : Nat} (hi : i < 64) : Fn (gi gp) 1 (.ref 488) [.scr ns, .int i] (.ok (.int (drawL ns i))) := by
  refine Fn.introM (n := 0) (names := ["script", "i"]) (loc := []) (xs := []) (dx := []) (by rfl) (by kernel_rfl) (fun vs s hv _ => bind2 (fun v u => by rfl) vs s hv) (fun _ _ => by simp only [RepL]) (by decide +kernel) rfl (by decide +kernel) (by decide +kernel) ?_
  intro f₀ ok
  refine Ex.ifR ok (Te.cmp ok (Ev.name ok 1 rfl rfl) (Ev.callB ok rfl gv_len kept_builtin (Evs.cons ok (Ev.name ok 0 rfl rfl) Evs.nil rfl) Bi.lenScr) Op2.lt) (fun h => ?_) (fun h => ?_)
  · unfold drawL; rw [if_pos h]
    have hl : i < ns.length := by simp at h; exact h
    refine Ex.retN ok (Ev.bin ok (Ev.subScr ok (Ev.name ok 0 rfl rfl) (Ev.name ok 1 rfl rfl) (by omega) (k := ns.getD i 0) (by simp [hl])) (Ev.bin ok Ev.cint Ev.cint (Op2.pow (by decide) (by decide +kernel))) (Op2.mod (by decide +kernel))) retO
  · unfold drawL; rw [if_neg (by simp only [h]; decide)]
    refine Ex.retV ok (Ev.bin ok (Ev.bin ok (Ev.bin ok (Ev.bin ok Ev.cint (Ev.name ok 1 rfl rfl) (Op2.mul ?_)) (Ev.name ok 1 rfl rfl) (Op2.mul ?_)) (Ev.bin ok Ev.cint (Ev.name ok 1 rfl rfl) (Op2.mul ?_)) Op2.add) Ev.cint Op2.add)
    · exact IntMulOk.of_left (by decide +kernel)
    · exact IntMulOk.of_right (bits64 i hi)
    · exact IntMulOk.of_left (by decide +kernel)
end
section
variable {gp : GP}
theorem fn_capital {ls : List (List UInt8)} (hz : ls.length ≤ 1000) (hb : ∀ b ∈ ls, b.length ≤ 1000) : Fn (gi gp) 1 (.ref 524) [.list (ls.map .bytes)] (.ok (.list ((ls.map bup).map .bytes))) := by
  refine Fn.introM (n := 0) (names := ["labels"]) (loc := []) (xs := []) (dx := []) (by rfl) (by kernel_rfl) (fun vs s hv _ => bind1 (fun v => by rfl) vs s hv) (fun _ _ => by simp only [RepL]) (by decide +kernel) rfl (by decide +kernel) (by decide +kernel) ?_
  intro f₀ ok
  refine Ex.retV ok (Ev.comp ok (CompOk.plainM ⟨by decide +kernel, by rfl, by decide +kernel, by rfl, by decide +kernel, by decide +kernel, fun y hy => nomatch hy⟩ (by decide +kernel) (ItSrc.list ok (Ev.name ok 0 rfl rfl)) (by simp; exact small_line hz) (by simp) ?_))
  intro k d e hd he
  obtain ⟨b, hbk, rfl⟩ := bytes_at hd
  have : e = .bytes (bup b) := by
    simp only [List.map_map, List.getElem?_map, hbk] at he; simp at he; exact he.symm
  subst this
  have hbl := hb b (List.mem_of_getElem? hbk)
  intro f₀ ok'
  unfold bup
  refine Ev.callB ok' rfl gv_bytes kept_type (Evs.cons ok' (Ev.comp (es := (b.map capI).map .int) ok' (CompOk.plainM ⟨by decide +kernel, by rfl, by decide +kernel, by rfl, by decide +kernel, by decide +kernel, fun y hy => nomatch hy⟩ (by decide +kernel) (ItSrc.bytes ok' (Ev.name ok' 0 rfl rfl)) (by simp [vbytes]; exact small_line hbl) (by simp [vbytes]) ?_)) Evs.nil rfl) (Bi.bytesL fun i hi => ?_)
  · intro k d e hd he
    obtain ⟨c, hc, rfl⟩ := vb_at hd
    have : e = .int (capI c) := by
      simp only [List.map_map, List.getElem?_map, hc] at he; simp at he; exact he.symm
    subst this
    intro f₀ ok''
    have e : V.int (capI c) = if (decide ((97 : Int) ≤ (c.toNat : Int)) && decide ((c.toNat : Int) ≤ 122)) = true then V.int ((c.toNat : Int) - 32) else V.int c.toNat := by unfold capI; split <;> rfl
    rw [e]
    exact Ev.iteOk ok'' (Te.chain ok'' Ev.cint (Ev.name ok'' 0 rfl rfl) (fun _ => Ev.cint) Op2.le fun _ => Op2.le) (fun _ => Ev.bin ok'' (Ev.name ok'' 0 rfl rfl) Ev.cint Op2.sub) (fun _ => Ev.name ok'' 0 rfl rfl)
  · obtain ⟨c, _, rfl⟩ := List.mem_map.mp hi
    exact capI_lt c
end
abbrev Lbl := List (List UInt8)
theorem clip_nat (n p : Nat) (h : p ≤ n) : clipAt n (p : Int) = p := (clip_nn n p).trans (Nat.min_eq_left h)
theorem slc_lo {α : Type} (l : List α) (p : Nat) (h : p ≤ l.length) : slc l none (some (p : Int)) = l.take p := by
  unfold slc clo chi
  simp only [clip_nat _ _ h, List.drop_zero, Nat.sub_zero]
theorem slc_hi {α : Type} (l : List α) (p : Nat) (h : p ≤ l.length) : slc l (some (p : Int)) none = l.drop p := by
  unfold slc clo chi
  simp only [clip_nat _ _ h]
  apply List.take_of_length_le; simp
theorem names_at {f : Lbl → V} {ls : List Lbl} {k : Nat} {d : V} (h : (ls.map f)[k]? = some d) : ∃ b, ls[k]? = some b ∧ d = f b := by
  simp only [List.getElem?_map, Option.map_eq_some_iff] at h
  obtain ⟨b, e, rfl⟩ := h; exact ⟨b, e, rfl⟩
theorem at_of {f : Lbl → V} {ls : List Lbl} {k : Nat} {b : Lbl} (h : ls[k]? = some b) : (ls.map f)[vidx (ls.map f).length (k : Int)]? = some (f b) := by
  have : vidx (ls.map f).length (k : Int) = k := by unfold vidx; rw [if_neg (by omega)]; simp
  rw [this, List.getElem?_map, h]; rfl
theorem vr_at {n k : Nat} {d : V} (h : (vrange 0 n)[k]? = some d) : k < n ∧ d = .int (k : Int) := by
  simp only [vrange, List.getElem?_map, Option.map_eq_some_iff] at h
  obtain ⟨i, hi, rfl⟩ := h
  obtain ⟨q1, q2⟩ := List.getElem?_eq_some_iff.mp hi
  simp at q1 q2; subst q2
  exact ⟨q1, by simp⟩
theorem slc_init {α : Type} (l : List α) : slc l none (some (-1)) = l.dropLast := by
  unfold slc clo chi
  have : clipAt l.length (-1) = l.length - 1 := clip_ng _ 1 (by decide)
  simp only [this, List.drop_zero, Nat.sub_zero]
  rw [List.dropLast_eq_take]
structure Good (ls : Lbl) : Prop where
  init : ∀ b ∈ ls.dropLast, 1 ≤ b.length ∧ b.length ≤ 63
  last : ∀ b, ls.getLast? = some b → b.length ≤ 63
  small : wire ls ≤ 255
theorem good_nil : Good [] := ⟨(fun _ h => nomatch h), (fun _ h => nomatch h), by decide⟩
theorem wire_cons (b : List UInt8) (ls : Lbl) : wire (b :: ls) = (b.length : Int) + 1 + wire ls := by unfold wire; simp
theorem Good.cons {ls : Lbl} {b : List UInt8} (h : Good ls) (h1 : 1 ≤ b.length) (h2 : b.length ≤ 63) (h3 : wire (b :: ls) ≤ 255) : Good (b :: ls) := by
  refine ⟨fun c hc => ?_, fun c hc => ?_, h3⟩
  · cases ls with
    | nil => simp at hc
    | cons d r =>
      rw [List.dropLast_cons_of_ne_nil (by simp)] at hc
      rcases List.mem_cons.mp hc with rfl | hc
      · exact ⟨h1, h2⟩
      · exact h.init c hc
  · cases ls with
    | nil => simp at hc; subst hc; exact h2
    | cons d r => rw [List.getLast?_cons_cons] at hc; exact h.last c hc
theorem Good.mem {ls : Lbl} (h : Good ls) {b : List UInt8} (hb : b ∈ ls) : b.length ≤ 63 := by
  cases q : ls.getLast? with
  | none => rw [List.getLast?_eq_none_iff] at q; subst q; cases hb
  | some c =>
    have hne : ls ≠ [] := fun e => by rw [e] at hb; cases hb
    have e := List.dropLast_concat_getLast hne
    rw [← e] at hb
    rcases List.mem_append.mp hb with hb | hb
    · exact (h.init b hb).2
    · have hb : b = ls.getLast hne := by simpa using hb
      refine h.last b ?_
      rw [hb, List.getLast?_eq_some_getLast hne]
theorem len_wire : ∀ ls : Lbl, (ls.length : Int) ≤ wire ls
  | [] => by simp [wire]
  | b :: r => by rw [wire_cons]; have := len_wire r; simp; omega
theorem Good.len {ls : Lbl} (h : Good ls) : ls.length ≤ 255 := by have := len_wire ls; have := h.small; omega
theorem Good.lawful {ls : Lbl} (h : Good ls) : Lawful ls := by
  refine ⟨fun b hb => h.mem hb, h.small, ?_⟩
  unfold fe
  cases q : ls.findIdx? (· == []) with
  | none => left; decide
  | some i =>
    right
    show (i : Int) = _
    rw [List.findIdx?_eq_some_iff_getElem] at q
    obtain ⟨hi, hb, _⟩ := q
    have : ¬ i < ls.length - 1 := fun hlt => by
      have hm : ls[i] ∈ ls.dropLast := by
        rw [List.dropLast_eq_take]
        exact List.mem_take_iff_getElem.mpr ⟨i, by omega, rfl⟩
      have := (h.init _ hm).1
      have e : ls[i] = [] := by simpa using hb
      rw [e] at this; simp at this
    omega
theorem Good.map {ls : Lbl} (h : Good ls) {f : List UInt8 → List UInt8} (hf : ∀ b, (f b).length = b.length) : Good (ls.map f) := by
  have hw : wire (ls.map f) = wire ls := by unfold wire; rw [List.map_map]; congr 1; exact List.map_congr_left fun b _ => by simp [hf]
  refine ⟨fun b hb => ?_, fun b hb => ?_, by rw [hw]; exact h.small⟩
  · rw [← List.map_dropLast] at hb
    obtain ⟨c, hc, rfl⟩ := List.mem_map.mp hb
    rw [hf]; exact h.init c hc
  · rw [List.getLast?_map] at hb
    cases q : ls.getLast? with
    | none => rw [q] at hb; cases hb
    | some c => rw [q] at hb; simp at hb; subst hb; rw [hf]; exact h.last c q
theorem blow_len (b : List UInt8) : (blow b).length = b.length := by unfold blow; simp
theorem bytesOf_len (ns : List Int) : (bytesOf ns).length = ns.length := by unfold bytesOf; simp
theorem fe_of {ls : Lbl} (h : ∀ b ∈ ls.dropLast, 1 ≤ b.length) : fe ls < 0 ∨ fe ls = (ls.length : Int) - 1 := by
  unfold fe
  cases q : ls.findIdx? (· == []) with
  | none => left; decide
  | some i =>
    right
    show (i : Int) = _
    rw [List.findIdx?_eq_some_iff_getElem] at q
    obtain ⟨hi, hb, _⟩ := q
    have : ¬ i < ls.length - 1 := fun hlt => by
      have hm : ls[i] ∈ ls.dropLast := by
        rw [List.dropLast_eq_take]
        exact List.mem_take_iff_getElem.mpr ⟨i, by omega, rfl⟩
      have := h _ hm
      have e : ls[i] = [] := by simpa using hb
      rw [e] at this; simp at this
    omega
theorem mem_init_last {ls : Lbl} {b : List UInt8} (hb : b ∈ ls) : b ∈ ls.dropLast ∨ ls.getLast? = some b := by
  cases q : ls.getLast? with
  | none => rw [List.getLast?_eq_none_iff] at q; subst q; cases hb
  | some c =>
    have hne : ls ≠ [] := fun e => by rw [e] at hb; cases hb
    have e := List.dropLast_concat_getLast hne
    rw [← e] at hb
    rcases List.mem_append.mp hb with hb | hb
    · exact .inl hb
    · have hb : b = ls.getLast hne := by simpa using hb
      rw [← q, hb]; exact .inr (List.getLast?_eq_some_getLast hne)
theorem Good.rel {ls : Lbl} (h : Good ls) (ha : absL ls = false) : ∀ b ∈ ls, 1 ≤ b.length := by
  intro b hb
  rcases mem_init_last hb with q | q
  · exact (h.init b q).1
  · cases b with
    | nil => unfold absL at ha; rw [q] at ha; simp at ha
    | cons c r => simp
theorem Good.app {a b : Lbl} (ga : Good a) (gb : Good b) (h : (absL a && decide ((0 : Int) < (b.length : Int))) = false) : (∀ c ∈ a ++ b, c.length ≤ 63) ∧ (fe (a ++ b) < 0 ∨ fe (a ++ b) = ((a ++ b).length : Int) - 1) := by
  refine ⟨fun c hc => (List.mem_append.mp hc).elim ga.mem gb.mem, fe_of ?_⟩
  cases b with
  | nil => rw [List.append_nil]; exact fun c hc => (ga.init c hc).1
  | cons d r =>
    have ha : absL a = false := by
      cases q : absL a with
      | false => rfl
      | true => rw [q] at h; simp at h
    intro c hc
    rw [List.dropLast_append_of_ne_nil (by simp)] at hc
    rcases List.mem_append.mp hc with hc | hc
    · exact ga.rel ha c hc
    · exact (gb.init c hc).1
theorem wire_drop (ls : Lbl) (k : Nat) : wire (ls.drop k) ≤ wire ls := by
  have h := wire_app (ls.take k) (ls.drop k)
  rw [List.take_append_drop] at h
  have := wire_nonneg (ls.take k)
  omega
theorem Good.drop {ls : Lbl} (h : Good ls) (k : Nat) : Good (ls.drop k) := by
  refine ⟨fun b hb => ?_, fun b hb => ?_, Int.le_trans (wire_drop ls k) h.small⟩
  · have e : (ls.drop k).dropLast = ls.dropLast.drop k := by
      rw [List.dropLast_eq_take, List.dropLast_eq_take, List.length_drop, List.drop_take, Nat.sub_right_comm]
    rw [e] at hb
    exact h.init b (List.mem_of_mem_drop hb)
  · rw [List.getLast?_drop] at hb
    split at hb
    · cases hb
    · exact h.last b hb
theorem Good.take {ls : Lbl} (h : Good ls) (k : Nat) : Good (ls.take k) := by
  refine ⟨fun b hb => ?_, fun b hb => ?_, Int.le_trans (wire_take ls k) h.small⟩
  · rw [List.dropLast_eq_take, List.length_take, List.take_take] at hb
    refine h.init b ?_
    rw [List.dropLast_eq_take]
    have hle : min (min k ls.length - 1) k ≤ ls.length - 1 := Nat.le_trans (Nat.min_le_left _ _) (Nat.sub_le_sub_right (Nat.min_le_right _ _) 1)
    exact (List.take_subset_take_left ls hle) hb
  · exact h.mem (List.mem_of_mem_take (List.mem_of_getLast? hb))
section
variable {g : GI} {f : Fm} {n : Nat} {ρ : En}
theorem retR1 {r : Res} : ∀ d, r = .ok d → RetO r (.ret d) := fun d h => by subst h; exact retO
theorem retR2 {ρ : En} {r : Res} : ∀ c, r = .exc c → RetO r (.exc c ρ) := fun c h => by subst h; exact ⟨_, rfl⟩
theorem Ex.retR {e : Expr} {pos : Pos} {rest : List Stmt} {r : Res} (ok : FmOk g f n) (he : Ev g f ρ e r) : Ex g f ρ (.Return (some e) pos :: rest) (RetO r) := Ex.ret ok he retR1 retR2
end
theorem nameR_ok {tl : Addr} {ls : Lbl} (h : wire ls ≤ 255) : nameR tl ls = .ok (.name ls) := by unfold nameR; rw [if_neg (by omega)]
def conR (a b : Lbl) : Res := if (absL a && decide ((0 : Int) < (b.length : Int))) = true then .exc (.ref 130) else nameR 106 (a ++ b)
def subB (a b : Lbl) : Bool := decide ((fc a b).1 = 2) || decide ((fc a b).1 = 3)
def relL (a b : Lbl) : Lbl := if subB a b = true then slc a none (some (-(b.length : Int))) else a
def derR (a b : Lbl) : Res := if (!absL a) = true then conR a b else .ok (.name a)
def parR (a : Lbl) : Res := if (decide ((fc a [[]]).2.1 = 0) || decide ((fc a []).2.1 = 0)) = true then .exc (.ref 142) else .ok (.name (slc a (some 1) none))
theorem clip_neg (n : Nat) (k : Nat) : clipAt n (-(k : Int)) = if k = 0 then 0 else n - k := by
  cases k with
  | zero => exact (clip_nn n 0).trans (Nat.zero_min n)
  | succ k => exact clip_ng n (k + 1) (Nat.succ_pos k)
theorem slc_upto (a : Lbl) (k : Nat) : slc a none (some (-(k : Int))) = a.take (if k = 0 then 0 else a.length - k) := by
  show List.take (clipAt a.length (-(k : Int)) - 0) (List.drop 0 a) = _
  rw [clip_neg]; simp
theorem Good.slc_upto {a : Lbl} (h : Good a) (k : Nat) : Good (slc a none (some (-(k : Int)))) := by rw [Mine.slc_upto]; exact h.take _
theorem Good.tail1 {a : Lbl} (h : Good a) : Good (slc a (some 1) none) := by
  have : slc a (some (1 : Int)) none = a.drop (clipAt a.length 1) := by
    show List.take (a.length - clipAt a.length 1) (List.drop (clipAt a.length 1) a) = _
    apply List.take_of_length_le; simp
  rw [this]; exact h.drop _
section
variable {gp : GP}
theorem excAbs : ExcK (gi gp) "AbsoluteConcatenation" 130 := ⟨by kernel_rfl, by kernel_rfl, by kernel_rfl, by kernel_rfl⟩
theorem excNoParent : ExcK (gi gp) "NoParent" 142 := ⟨by kernel_rfl, by kernel_rfl, by kernel_rfl, by kernel_rfl⟩
theorem kn_root : ∃ v, nsIn (gi gp).K mainGlobals "root" = some (some v) ∧ KName (gi gp).K (gi gp).C [[]] v :=
  ⟨_, by rfl, ⟨_, _, _, _, _, [_], _, _, rfl, by rfl, by rfl, by rfl, by simp [sizeLine], by simp [sizeLine], [_], rfl, rfl⟩⟩
theorem kn_empty : ∃ v, nsIn (gi gp).K mainGlobals "empty" = some (some v) ∧ KName (gi gp).K (gi gp).C [] v :=
  ⟨_, by rfl, ⟨_, _, _, _, _, [], _, _, rfl, by rfl, by rfl, by rfl, by simp [sizeLine], by simp [sizeLine], [], rfl, rfl⟩⟩
section
variable {f : Fm} {n : Nat} {ρ : En}
theorem Ev.root {pos : Pos} (ok : FmOk (gi gp) f n) (hx : f.env.kindOf "root" = some .globalImplicit) : Ev (gi gp) f ρ (.Name "root" pos) (.ok (.name [[]])) := by
  obtain ⟨v, e1, e2⟩ := kn_root (gp := gp)
  exact Ev.globName ok hx (GV.glob e1 (by rfl)) e2
theorem Ev.empty {pos : Pos} (ok : FmOk (gi gp) f n) (hx : f.env.kindOf "empty" = some .globalImplicit) : Ev (gi gp) f ρ (.Name "empty" pos) (.ok (.name [])) := by
  obtain ⟨v, e1, e2⟩ := kn_empty (gp := gp)
  exact Ev.globName ok hx (GV.glob e1 (by rfl)) e2
end
theorem isSubM : MethK (gi gp) "is_subdomain" 210 := ⟨by kernel_rfl, by kernel_rfl, by kernel_rfl, by kernel_rfl, by kernel_rfl, by decide +kernel⟩
theorem conM : MethK (gi gp) "concatenate" 339 := ⟨by kernel_rfl, by kernel_rfl, by kernel_rfl, by kernel_rfl, by kernel_rfl, by decide +kernel⟩
theorem relM : MethK (gi gp) "relativize" 346 := ⟨by kernel_rfl, by kernel_rfl, by kernel_rfl, by kernel_rfl, by kernel_rfl, by decide +kernel⟩
theorem derM : MethK (gi gp) "derelativize" 353 := ⟨by kernel_rfl, by kernel_rfl, by kernel_rfl, by kernel_rfl, by kernel_rfl, by decide +kernel⟩
theorem parM : MethK (gi gp) "parent" 368 := ⟨by kernel_rfl, by kernel_rfl, by kernel_rfl, by kernel_rfl, by kernel_rfl, by decide +kernel⟩
theorem notF : notFirst (gi gp).K 387 (.ref 387) = true := by kernel_rfl
theorem op_eq {a b : Lbl} (ha : a.length ≤ 1000) (hb : b.length ≤ 1000) : Op2 (gi gp) 5 (compareOp .Eq) (.name a) (.name b) (.ok (.bool (decide ((fc a b).2.1 = 0)))) := Op2.cmpName (by decide) notF (by kernel_rfl) (by kernel_rfl) (fn_eqN ha hb)
theorem Op2.up {g : GI} {n m : Nat} {t : Value → Value → Sem Value} {a b : V} {r : Res} (h : Op2 g m t a b r) (hm : m ≤ n) : Op2 g n t a b r := fun f ρ σ s Q E va vb ok S ra rb q ex =>
  h f ρ σ s Q E va vb { ok with room := ok.room.mono hm } S ra rb q ex
theorem fn_len {ls : Lbl} : Fn (gi gp) 1 (.ref 304) [.name ls] (.ok (.int (ls.length : Nat))) := by
  refine Fn.introM (n := 0) (names := ["self"]) (loc := []) (xs := []) (dx := []) (by rfl) (by kernel_rfl) (fun vs s hv _ => bind1 (fun v => by rfl) vs s hv) (fun _ _ => by simp only [RepL]) (by decide +kernel) rfl (by decide +kernel) (by decide +kernel) ?_
  intro f₀ ok
  have e : (ls.length : Nat) = (ls.map V.bytes).length := by simp
  rw [e]
  exact Ex.retV ok (Ev.callB ok rfl gv_len kept_builtin (Evs.cons ok (Ev.labels ok labK (Ev.name ok 0 rfl rfl)) Evs.nil rfl) Bi.lenTup)
theorem bi_len {ls : Lbl} {n : Nat} (hn : 1 < n) (hz : ls.length ≤ 1000) : Bi (gi gp) n (.builtin "len") [.name ls] (.ok (.int (ls.length : Nat))) := Bi.lenName hn (by kernel_rfl) (by kernel_rfl) fn_len (by omega)
theorem fn_item {ls : Lbl} {i : Nat} {b : List UInt8} (hb : ls[i]? = some b) : Fn (gi gp) 1 (.ref 311) [.name ls, .int (i : Int)] (.ok (.bytes b)) := by
  refine Fn.introM (n := 0) (names := ["self", "index"]) (loc := []) (xs := []) (dx := []) (by rfl) (by kernel_rfl) (fun vs s hv _ => bind2 (fun v u => by rfl) vs s hv) (fun _ _ => by simp only [RepL]) (by decide +kernel) rfl (by decide +kernel) (by decide +kernel) ?_
  intro f₀ ok
  refine Ex.retV ok (Ev.sub ok (Ev.labels ok labK (Ev.name ok 0 rfl rfl)) (Ev.name ok 1 rfl rfl) (.inr (.inl rfl)) (Op2.itemTup ?_ (by omega)))
  have : vidx (ls.map V.bytes).length (i : Int) = i := by unfold vidx; rw [if_neg (by omega)]; simp
  rw [this, List.getElem?_map, hb]; rfl
theorem fn_con {a b : Lbl} (ha : Good a) (hb : Good b) : Fn (gi gp) 6 (.ref 339) [.name a, .name b] (conR a b) := by
  have la := ha.len
  have lb := hb.len
  refine Fn.introM (n := 5) (names := ["self", "other"]) (loc := ["labels"]) (xs := []) (dx := []) (by rfl) (by kernel_rfl) (fun vs s hv _ => bind2 (fun v u => by rfl) vs s hv) (fun _ _ => by simp only [RepL]) (by decide +kernel) rfl (by decide +kernel) (by decide +kernel) ?_
  intro f₀ ok
  refine Ex.ifR ok (c := absL a && decide ((0 : Int) < ((b.length : Nat) : Int))) (Te.bool (TAll.and_cons ok (Te.val (Ev.meth0 ok isAbsM (m := 2) (by decide) (Ev.name ok 0 rfl rfl) fn_is_abs)) fun _ => TAll.and1 ok (Te.cmp ok (Ev.callB ok rfl gv_len kept_builtin (Evs.cons ok (Ev.name ok 1 rfl rfl) Evs.nil rfl) (bi_len (by decide) (by omega))) Ev.cint Op2.gt))) (fun h => ?_) (fun h => ?_)
  · unfold conR; rw [if_pos h]
    exact Ex.raiseOwn ok rfl excAbs ⟨⟨_, rfl⟩, fun _ h => nomatch h⟩
  unfold conR; rw [if_neg (by rw [h]; decide)]
  refine Ex.assignO ok 2 rfl (EvO.listT ok rfl gv_list (Ev.labels ok labK (Ev.name ok 0 rfl rfl))) rfl ?_
  refine Ex.extend (es := b.map .bytes) ok 2 rfl rfl (Ev.callB ok rfl gv_list kept_type (Evs.cons ok (Ev.labels ok labK (Ev.name ok 1 rfl rfl)) Evs.nil rfl) Bi.listT) (.inl rfl) (by simp only [List.length_map]; exact small_line (by omega)) ?_
  refine Ex.freeze (i := 2) (ds := a.map .bytes ++ b.map .bytes) ok rfl ?_
  have e : a.map V.bytes ++ b.map V.bytes = (a ++ b).map .bytes := by simp
  rw [e]
  have hab := ha.app hb h
  exact Ex.retR ok (Ev.call ok rfl gv_Name (.inr (by kernel_rfl)) (m := 5) (by decide) (Evs.cons ok (Ev.name ok 2 rfl rfl) Evs.nil rfl) (fn_NameG hab.1 hab.2 (by rw [List.length_append]; omega)))
theorem fn_rel {a b : Lbl} (ha : Good a) (hb : Good b) : Fn (gi gp) 6 (.ref 346) [.name a, .name b] (.ok (.name (relL a b))) := by
  have la := ha.len
  have lb := hb.len
  refine Fn.introM (n := 5) (names := ["self", "origin"]) (loc := []) (xs := []) (dx := []) (by rfl) (by kernel_rfl) (fun vs s hv _ => bind2 (fun v u => by rfl) vs s hv) (fun _ _ => by simp only [RepL]) (by decide +kernel) rfl (by decide +kernel) (by decide +kernel) ?_
  intro f₀ ok
  refine Ex.ite ok (Te.val (Ev.meth ok isSubM (m := 5) (by decide) (Ev.name ok 0 rfl rfl) (Evs.cons ok (Ev.name ok 1 rfl rfl) Evs.nil rfl) (fn_is_sub (by omega) (by omega)))) (fun h => ?_) (fun h => ?_)
  · unfold relL; rw [if_pos (show subB a b = true from h)]
    have g' := ha.slc_upto b.length
    have gl := g'.len
    exact Ex.retV ok (Ev.call ok rfl gv_Name (.inr (by kernel_rfl)) (m := 5) (by decide) (Evs.cons ok ((slc_map V.bytes a none (some (-((b.length : Nat) : Int)))) ▸ Ev.sliceTup ok (Ev.labels ok labK (Ev.name ok 0 rfl rfl)) EvP.no (EvP.at (Ev.neg (Ev.callB ok rfl gv_len kept_builtin (Evs.cons ok (Ev.name ok 1 rfl rfl) Evs.nil rfl) (bi_len (by decide) (by omega)))))) Evs.nil rfl) (by have h1 := fn_NameT (gp := gp) (ls := slc a none (some (-(b.length : Int)))) (fun c hc => g'.mem hc) (fe_of fun c hc => (g'.init c hc).1) (by omega); rwa [nameR_ok g'.small] at h1))
  · unfold relL; rw [if_neg (show ¬ subB a b = true by unfold subB; rw [h]; decide)]
    exact Ex.retV ok (Ev.name ok 0 rfl rfl)
theorem fn_NameTG {ls : Lbl} (h : Good ls) : Fn (gi gp) 5 (.ref 387) [.tup (ls.map .bytes)] (.ok (.name ls)) := by
  have hl := h.len
  have h1 := fn_NameT (gp := gp) (ls := ls) (fun c hc => h.mem hc) (fe_of fun c hc => (h.init c hc).1) (by omega)
  rwa [nameR_ok h.small] at h1
theorem fn_der {a b : Lbl} (ha : Good a) (hb : Good b) : Fn (gi gp) 7 (.ref 353) [.name a, .name b] (derR a b) := by
  refine Fn.introM (n := 6) (names := ["self", "origin"]) (loc := []) (xs := []) (dx := []) (by rfl) (by kernel_rfl) (fun vs s hv _ => bind2 (fun v u => by rfl) vs s hv) (fun _ _ => by simp only [RepL]) (by decide +kernel) rfl (by decide +kernel) (by decide +kernel) ?_
  intro f₀ ok
  refine Ex.ite ok (Te.not (Te.val (Ev.meth0 ok isAbsM (m := 2) (by decide) (Ev.name ok 0 rfl rfl) fn_is_abs))) (fun h => ?_) (fun h => ?_)
  · unfold derR; rw [if_pos h]
    exact Ex.retR ok (Ev.meth ok conM (m := 6) (by decide) (Ev.name ok 0 rfl rfl) (Evs.cons ok (Ev.name ok 1 rfl rfl) Evs.nil rfl) (fn_con ha hb))
  · unfold derR; rw [if_neg (by rw [h]; decide)]
    exact Ex.retV ok (Ev.name ok 0 rfl rfl)
theorem fn_par {a : Lbl} (ha : Good a) : Fn (gi gp) 7 (.ref 368) [.name a] (parR a) := by
  have la := ha.len
  refine Fn.introM (n := 6) (names := ["self"]) (loc := []) (xs := []) (dx := []) (by rfl) (by kernel_rfl) (fun vs s hv _ => bind1 (fun v => by rfl) vs s hv) (fun _ _ => by simp only [RepL]) (by decide +kernel) rfl (by decide +kernel) (by decide +kernel) ?_
  intro f₀ ok
  refine Ex.ifR ok (c := decide ((fc a [[]]).2.1 = 0) || decide ((fc a []).2.1 = 0)) (Te.bool (TAll.or_cons ok (Te.cmp ok (Ev.name ok 0 rfl rfl) (Ev.root ok rfl) ((op_eq (by omega) (by simp)).up (by decide))) fun _ => TAll.or1 ok (Te.cmp ok (Ev.name ok 0 rfl rfl) (Ev.empty ok rfl) ((op_eq (by omega) (by simp)).up (by decide))))) (fun h => ?_) (fun h => ?_)
  · unfold parR; rw [if_pos h]
    exact Ex.raiseOwn ok rfl excNoParent ⟨⟨_, rfl⟩, fun _ h => nomatch h⟩
  unfold parR; rw [if_neg (by rw [h]; decide)]
  exact Ex.retR ok (Ev.call ok rfl gv_Name (.inr (by kernel_rfl)) (m := 5) (by decide) (Evs.cons ok ((slc_map V.bytes a (some 1) none) ▸ Ev.sliceTup ok (Ev.labels ok labK (Ev.name ok 0 rfl rfl)) (EvP.at Ev.cint) EvP.no) Evs.nil rfl) (fn_NameTG ha.tail1))
end
def okLen (b : List UInt8) : Bool := decide ((1 : Int) ≤ (b.length : Int)) && decide ((b.length : Int) ≤ 63)
def lawfulB (ls : List (List UInt8)) : Bool := if ((slc ls none (some (-1))).all okLen) = true then decide ((0 : Int) < ((ls.map V.bytes).length : Int)) && ((ls.getLastD [] == []) && decide (wire ls ≤ 255)) else false
section
variable {gp : GP}
theorem fn_wl {ls : List (List UInt8)} : Fn (gi gp) 1 (.ref 445) [.tup (ls.map .bytes)] (.ok (.int (wire ls))) := by
  refine Fn.introM (n := 0) (names := ["labels"]) (loc := ["total", "x"]) (xs := []) (dx := []) (by rfl) (by kernel_rfl) (fun vs s hv _ => bind1 (fun v => by rfl) vs s hv) (fun _ _ => by simp only [RepL]) (by decide +kernel) rfl (by decide +kernel) (by decide +kernel) ?_
  intro f₀ ok
  refine Ex.assign ok 1 rfl Ev.cint ?_
  refine Ex.seq (O₁ := fun o => o = .next [some (.sh (.tup (ls.map .bytes))), some (.sh (.int (wire ls))), none]) (Ex.for (τ := Int) ok 2 rfl (ItSrc.tup ok (Ev.name ok 0 rfl rfl)) (fun t => [some (.sh (.tup (ls.map .bytes))), some (.sh (.int t)), none]) (fun k t => t = wire (ls.take k)) 0 (.keep (.keep (.drop .nil))) (by simp [wire]) ?turn ?done) ?rest ?out
  case turn =>
    intro k t d hd hJ
    obtain ⟨b, hb, rfl⟩ := bytes_at hd
    subst hJ
    refine Ex.assign ok 1 rfl (Ev.bin ok (Ev.bin ok (Ev.name ok 1 rfl rfl) (Ev.callB ok rfl gv_len kept_builtin (Evs.cons ok (Ev.name ok 2 rfl rfl) Evs.nil rfl) Bi.lenBytes) Op2.add) Ev.cint Op2.add) (Ex.nil ⟨_, ?_, .keep (.keep (.drop .nil))⟩)
    rw [wire_succ hb]; omega
  case done => intro t hJ; subst hJ; simp
  case rest =>
    intro ρ' h; injection h with h; subst h
    exact Ex.ret ok (Ev.name ok 1 rfl rfl) (fun d h => by injection h with h; subst h; exact .inl rfl) (fun c h => nomatch h)
  case out => intro o h hn; exact (hn _ h).elim
theorem fn_lawful {ls : List (List UInt8)} : Fn (gi gp) 2 (.ref 502) [.list (ls.map .bytes)] (.ok (.bool (lawfulB ls))) := by
  refine Fn.introM (n := 1) (names := ["labels"]) (loc := ["label"]) (xs := []) (dx := []) (by rfl) (by kernel_rfl) (fun vs s hv _ => bind1 (fun v => by rfl) vs s hv) (fun _ _ => by simp only [RepL]) (by decide +kernel) rfl (by decide +kernel) (by decide +kernel) ?_
  intro f₀ ok
  have hsl : slc (ls.map V.bytes) none (some (-1)) = (slc ls none (some (-1))).map V.bytes := slc_map _ _ _ _
  refine Ex.seq (O₁ := fun o => NoN (RetO (.ok (.bool (lawfulB ls)))) o ∨ (o = .next [some (.sh (.list (ls.map .bytes))), none] ∧ (slc ls none (some (-1))).all okLen = true))
    (Ex.for (τ := Unit) ok 1 rfl (ItSrc.list (ds := (slc ls none (some (-1))).map V.bytes) ok (hsl ▸ Ev.sliceList ok (Ev.name ok 0 rfl rfl) EvP.no (EvP.at (Ev.neg Ev.cint)))) (fun _ => [some (.sh (.list (ls.map .bytes))), none]) (fun k _ => ((slc ls none (some (-1))).take k).all okLen = true) () (.keep (.keep .nil)) (by simp) ?turn ?done) ?rest ?out
  case done =>
    intro t hJ
    refine .inr ⟨rfl, ?_⟩
    simpa using hJ
  case out =>
    intro o h hn
    rcases h with h | ⟨rfl, _⟩
    · exact h.1
    · exact (hn _ rfl).elim
  case turn =>
    intro k t d hd hJ
    obtain ⟨b, hb, rfl⟩ := bytes_at hd
    refine Ex.ifR ok (c := !okLen b) (Te.not (Te.chain ok Ev.cint (Ev.callB ok rfl gv_len kept_builtin (Evs.cons ok (Ev.name ok 1 rfl rfl) Evs.nil rfl) Bi.lenBytes) (fun _ => Ev.cint) Op2.le fun _ => Op2.le)) (fun h => ?_) (fun h => ?_)
    · have hf : lawfulB ls = false := by
        unfold lawfulB
        rw [if_neg]
        intro hall
        rw [List.all_eq_true] at hall
        have := hall b (List.mem_of_getElem? hb)
        rw [this] at h; cases h
      rw [hf]
      exact Ex.retN ok Ev.cbool (.inl ⟨retO, fun _ h => nomatch h⟩)
    · refine Ex.nil ⟨(), ?_, .keep (.drop .nil)⟩
      rw [List.take_add_one, hb]
      have : okLen b = true := by simpa using h
      simp [hJ, this]
  case rest =>
    rintro ρ' (h | ⟨h, hall⟩)
    · exact (h.2 _ rfl).elim
    injection h with h; subst h
    unfold lawfulB
    rw [if_pos hall]
    refine Ex.retV ok (Ev.boolop (BAll.and_cons ok (Ev.cmp ok (Ev.callB ok rfl gv_len kept_builtin (Evs.cons ok (Ev.name ok 0 rfl rfl) Evs.nil rfl) Bi.lenList) Ev.cint Op2.gt) fun h => BAll.and_cons ok (Ev.cmp ok (Ev.sub ok (Ev.name ok 0 rfl rfl) (Ev.neg Ev.cint) (.inl rfl) (Op2.itemList (last_at ?_) ?_)) (Ev.cbytes (by decide)) Op2.eqBy) fun h' => BAll.one (Ev.cmp ok (Ev.call ok rfl gv_wire (.inr (by kernel_rfl)) (by decide) (Evs.cons ok (Ev.name ok 0 rfl rfl) Evs.nil rfl) fn_wire) Ev.cint Op2.le)))
    · simpa using h
    · simp at h ⊢; omega
theorem fn_key {ls : List (List UInt8)} (hw : wire ls ≤ 100000) : Fn (gi gp) 1 (.ref 529) [.list (ls.map .bytes)] (.ok (.list ((rowL ls).map .int))) := by
  refine Fn.introM (n := 0) (names := ["labels"]) (loc := ["row", "label"]) (xs := []) (dx := []) (by rfl) (by kernel_rfl) (fun vs s hv _ => bind1 (fun v => by rfl) vs s hv) (fun _ _ => by simp only [RepL]) (by decide +kernel) rfl (by decide +kernel) (by decide +kernel) ?_
  intro f₀ ok
  have hrl : ∀ k, (rowL (ls.take k)).length ≤ 100000 := fun k => by
    have h1 := rowL_len (ls.take k); have h2 := wire_take ls k; omega
  refine Ex.assign ok 1 rfl (Ev.listD ok Evs.nil (by decide)) ?_
  refine Ex.seq (O₁ := fun o => o = .next [some (.sh (.list (ls.map .bytes))), some (.sh (.list ((rowL ls).map .int))), none]) (Ex.for (τ := List Int) ok 2 rfl (ItSrc.list ok (Ev.name ok 0 rfl rfl)) (fun t => [some (.sh (.list (ls.map .bytes))), some (.sh (.list (t.map .int))), none]) (fun k t => t = rowL (ls.take k)) [] (.keep (.keep (.drop .nil))) (by simp [rowL]) ?turn ?done) ?rest ?out
  case out => intro o h hn; exact (hn _ h).elim
  case done => intro t hJ; subst hJ; simp
  case turn =>
    intro k t d hd hJ
    obtain ⟨b, hb, rfl⟩ := bytes_at hd
    subst hJ
    have hs1 := rowL_succ hb
    have hl1 := hrl (k + 1)
    rw [hs1] at hl1
    simp only [List.length_append, List.length_map, List.length_cons, List.length_nil] at hl1
    have e : V.list ((rowL (ls.take (k + 1))).map .int) = .list (((b.map keyI).map .int ++ [.int 0]) ++ (rowL (ls.take k)).map .int) := by rw [hs1]; simp
    refine Ex.assign ok 1 rfl (Ev.bin ok (Ev.bin ok (Ev.comp (es := (b.map keyI).map .int) ok (CompOk.plainM ⟨by decide +kernel, by rfl, by decide +kernel, by rfl, by decide +kernel, by decide +kernel, fun y hy => nomatch hy⟩ (by decide +kernel) (ItSrc.bytes ok (Ev.name ok 2 rfl rfl)) (by simp [vbytes, sizeLine]; omega) (by simp [vbytes]) ?_)) (Ev.listD ok (Evs.cons ok Ev.cint Evs.nil rfl) (by decide)) (Op2.addL ?_)) (Ev.name ok 1 rfl rfl) (Op2.addL ?_)) (Ex.nil ⟨rowL (ls.take (k + 1)), rfl, ?_⟩)
    · intro k d e hd he
      obtain ⟨c, hc, rfl⟩ := vb_at hd
      have : e = .int (keyI c) := by
        simp only [List.map_map, List.getElem?_map, hc] at he; simp at he; exact he.symm
      subst this
      intro f₀ ok''
      have e : V.int (keyI c) = if (decide ((65 : Int) ≤ (c.toNat : Int)) && decide ((c.toNat : Int) ≤ 90)) = true then V.int ((c.toNat : Int) + 33) else V.int ((c.toNat : Int) + 1) := by unfold keyI; split <;> rfl
      rw [e]
      exact Ev.iteOk ok'' (Te.chain ok'' Ev.cint (Ev.name ok'' 0 rfl rfl) (fun _ => Ev.cint) Op2.le fun _ => Op2.le) (fun _ => Ev.bin ok'' (Ev.name ok'' 0 rfl rfl) Ev.cint Op2.add) (fun _ => Ev.bin ok'' (Ev.name ok'' 0 rfl rfl) Ev.cint Op2.add)
    · simp [sizeLine]; omega
    · simp [sizeLine]; omega
    · rw [e]
      exact .keep (.keep (.drop .nil))
  case rest =>
    intro ρ' h; injection h with h; subst h
    exact Ex.retV ok (Ev.name ok 1 rfl rfl)
end
abbrev ff (k : Nat) : List UInt8 := List.replicate k 255
def padL (k : Nat) : Lbl := if h : k > 64 then ff 63 :: padL (k - 64) else if 2 ≤ k then [ff (k - 1)] else []
termination_by k
theorem padL_big {k : Nat} (h : k > 64) : padL k = ff 63 :: padL (k - 64) := by rw [padL]; rw [dif_pos h]
theorem padL_mid {k : Nat} (h : ¬ k > 64) (h2 : 2 ≤ k) : padL k = [ff (k - 1)] := by rw [padL]; rw [dif_neg h, if_pos h2]
theorem padL_end {k : Nat} (h : ¬ k > 64) (h2 : ¬ 2 ≤ k) : padL k = [] := by rw [padL]; rw [dif_neg h, if_neg h2]
theorem padL_mem (k : Nat) : ∀ b ∈ padL k, 1 ≤ b.length ∧ b.length ≤ 63 := by
  induction k using Nat.strongRecOn with
  | ind k ih =>
    intro b hb
    by_cases h : k > 64
    · rw [padL_big h] at hb
      rcases List.mem_cons.mp hb with rfl | hb
      · simp
      · exact ih (k - 64) (by omega) b hb
    · by_cases h2 : 2 ≤ k
      · rw [padL_mid h h2] at hb
        have : b = ff (k - 1) := by simpa using hb
        subst this; simp; omega
      · rw [padL_end h h2] at hb; cases hb
theorem padL_len (k : Nat) : (padL k).length ≤ k := by
  induction k using Nat.strongRecOn with
  | ind k ih =>
    by_cases h : k > 64
    · rw [padL_big h]; have := ih (k - 64) (by omega); simp; omega
    · by_cases h2 : 2 ≤ k
      · rw [padL_mid h h2]; simp; omega
      · rw [padL_end h h2]; simp
theorem padL_wire (k : Nat) : wire (padL k) ≤ k ∧ (k : Int) ≤ wire (padL k) + 1 := by
  induction k using Nat.strongRecOn with
  | ind k ih =>
    by_cases h : k > 64
    · rw [padL_big h, wire_cons]; have := ih (k - 64) (by omega); simp only [List.length_replicate]; omega
    · by_cases h2 : 2 ≤ k
      · rw [padL_mid h h2, wire_cons]; simp only [List.length_replicate]
        have : wire [] = 0 := rfl
        omega
      · rw [padL_end h h2]
        have : wire [] = 0 := rfl
        omega
def padN (ls : Lbl) : Lbl := (padL (255 - wire ls).toNat).reverse ++ ls
theorem wire_rev (ls : Lbl) : wire ls.reverse = wire ls := by
  unfold wire; rw [List.map_reverse, List.sum_reverse]
theorem padN_wire {ls : Lbl} (h : wire ls ≤ 255) : wire (padN ls) ≤ 255 ∧ 254 ≤ wire (padN ls) := by
  unfold padN
  rw [wire_app, wire_rev]
  have := padL_wire (255 - wire ls).toNat
  omega
theorem padN_good {ls : Lbl} (h : Good ls) (hne : ls ≠ []) : Good (padN ls) := by
  refine ⟨fun b hb => ?_, fun b hb => ?_, (padN_wire h.small).1⟩
  · unfold padN at hb
    rw [List.dropLast_append_of_ne_nil hne] at hb
    rcases List.mem_append.mp hb with hb | hb
    · exact padL_mem _ b (by simpa using hb)
    · exact h.init b hb
  · unfold padN at hb
    rw [List.getLast?_append] at hb
    cases q : ls.getLast? with
    | none => rw [List.getLast?_eq_none_iff] at q; exact (hne q).elim
    | some c => rw [q] at hb; simp at hb; subst hb; exact h.last c q
def padLab (l : List UInt8) (sw : Int) : List UInt8 := if decide (255 - sw - l.length - 1 ≤ 0) = true then l else l ++ ff (min (63 - (l.length : Int)) (255 - sw - l.length - 1)).toNat
section
variable {gp : GP}
theorem gv_wl : GV (gi gp) "_wire_length" (.ref 445) := GV.glob (by kernel_rfl) (by rfl)
theorem gv_maxo : ∃ tk, GV (gi gp) "_MAXIMAL_OCTET" (.bytes [255].toArray tk) := ⟨_, GV.glob (by rfl) (by rfl)⟩
theorem gv_mino : ∃ tk, GV (gi gp) "_MINIMAL_OCTET" (.bytes [0].toArray tk) := ⟨_, GV.glob (by rfl) (by rfl)⟩
theorem gv_minv : ∃ tk, GV (gi gp) "_MINIMAL_OCTET_VALUE" (.int 0 tk) := ⟨_, GV.glob (by rfl) (by rfl)⟩
theorem gv_maxv : ∃ tk, GV (gi gp) "_MAXIMAL_OCTET_VALUE" (.int 255 tk) := ⟨_, GV.glob (by rfl) (by rfl)⟩
theorem gv_atv : ∃ tk, GV (gi gp) "_AT_SIGN_VALUE" (.int 64 tk) := ⟨_, GV.glob (by rfl) (by rfl)⟩
theorem gv_lsq : ∃ tk, GV (gi gp) "_LEFT_SQUARE_BRACKET_VALUE" (.int 91 tk) := ⟨_, GV.glob (by rfl) (by rfl)⟩
theorem gv_reversed : GV (gi gp) "reversed" (.type "reversed") := GV.boot (by kernel_rfl) (by kernel_rfl) (by decide) (by rfl)
theorem gv_ba : GV (gi gp) "bytearray" (.type "bytearray") := GV.boot (by kernel_rfl) (by kernel_rfl) (by decide) (by rfl)
theorem fn_padlab {l : List UInt8} {sl : Lbl} (hl : l.length ≤ 63) (hw : wire sl ≤ 255) : Fn (gi gp) 2 (.ref 459) [.bytes l, .tup (sl.map .bytes)] (.ok (.bytes (padLab l (wire sl)))) := by
  refine Fn.introM (n := 1) (names := ["label", "suffix_labels"]) (loc := ["length", "remaining", "needed"]) (xs := []) (dx := []) (by rfl) (by kernel_rfl) (fun vs s hv _ => bind2 (fun v u => by rfl) vs s hv) (fun _ _ => by simp only [RepL]) (by decide +kernel) rfl (by decide +kernel) (by decide +kernel) ?_
  intro f₀ ok
  obtain ⟨tk, gm⟩ := gv_maxo (gp := gp)
  have hw0 := wire_nonneg sl
  refine Ex.assign ok 2 rfl (Ev.callB ok rfl gv_len kept_builtin (Evs.cons ok (Ev.name ok 0 rfl rfl) Evs.nil rfl) Bi.lenBytes) ?_
  refine Ex.assign ok 3 rfl (Ev.bin ok (Ev.bin ok (Ev.bin ok Ev.cint (Ev.call ok rfl gv_wl (.inr (by kernel_rfl)) (by decide) (Evs.cons ok (Ev.name ok 1 rfl rfl) Evs.nil rfl) fn_wl) Op2.sub) (Ev.name ok 2 rfl rfl) Op2.sub) Ev.cint Op2.sub) ?_
  unfold padLab
  refine Ex.ifR ok (Te.cmp ok (Ev.name ok 3 rfl rfl) Ev.cint Op2.le) (fun h => ?_) (fun h => ?_)
  · rw [if_pos h]
    exact Ex.retN ok (Ev.name ok 0 rfl rfl) retO
  · rw [if_neg (by rw [h]; decide)]
    have h' : ¬ 255 - wire sl - l.length - 1 ≤ 0 := by simpa using h
    refine Ex.assign ok 4 rfl (Ev.callB ok rfl gv_min kept_builtin (Evs.cons ok (Ev.bin ok Ev.cint (Ev.name ok 2 rfl rfl) Op2.sub) (Evs.cons ok (Ev.name ok 3 rfl rfl) Evs.nil rfl) rfl) Bi.min2) ?_
    refine Ex.retV ok (Ev.bin ok (Ev.name ok 0 rfl rfl) (Ev.bin ok (Ev.globBytes ok rfl gm (by decide)) (Ev.name ok 4 rfl rfl) (Op2.mulOct (by omega) (by omega))) (Op2.addB ?_))
    simp; omega
end
section
variable {gp : GP}
theorem fn_padname {ls : Lbl} (hg : Good ls) (hne : ls ≠ []) : Fn (gi gp) 6 (.ref 452) [.name ls] (.ok (.name (padN ls))) := by
  refine Fn.introM (n := 5) (names := ["name"]) (loc := ["needed", "new_labels"]) (xs := []) (dx := []) (by rfl) (by kernel_rfl) (fun vs s hv _ => bind1 (fun v => by rfl) vs s hv) (fun _ _ => by simp only [RepL]) (by decide +kernel) rfl (by decide +kernel) (by decide +kernel) ?_
  intro f₀ ok
  obtain ⟨tk, gm⟩ := gv_maxo (gp := gp)
  have hw0 := wire_nonneg ls
  have hw1 := hg.small
  have hK : 255 - wire ls = (((255 - wire ls).toNat : Nat) : Int) := by omega
  have hP := padL_len (255 - wire ls).toNat
  have hL := hg.len
  refine Ex.assign ok 1 rfl (Ev.bin ok Ev.cint (Ev.call ok rfl gv_wl (.inr (by kernel_rfl)) (by decide) (Evs.cons ok (Ev.labels ok labK (Ev.name ok 0 rfl rfl)) Evs.nil rfl) fn_wl) Op2.sub) ?_
  refine Ex.assignO ok 2 rfl (EvO.listD ok Evs.nil (by decide)) rfl ?_
  rw [hK]
  unfold padN
  generalize (255 - wire ls).toNat = K at hK hP
  have hKb : K ≤ 255 := by omega
  refine Ex.seq (O₁ := fun o => ∃ t : Lbl × Nat, t.1 ++ padL t.2 = padL K ∧ t.2 ≤ 64 ∧ o = .next [some (.sh (.name ls)), some (.sh (.int t.2)), some (.li (t.1.map .bytes))])
    (Ex.while (τ := Lbl × Nat) ok (fun t => [some (.sh (.name ls)), some (.sh (.int t.2)), some (.li (t.1.map .bytes))]) (fun t => t.1 ++ padL t.2 = padL K ∧ t.2 ≤ K) (fun t => t.2) ([], K) (.keep (.keep (.keep .nil))) ⟨rfl, Nat.le_refl _⟩ (fun t => decide ((t.2 : Int) > 64)) (fun t hJ => Te.cmp ok (Ev.name ok 1 rfl rfl) Ev.cint Op2.gt) ?turn ?done) ?rest ?out
  case done =>
    rintro ⟨acc, k⟩ ⟨h1, h2⟩ hc
    exact ⟨(acc, k), h1, by simp at hc ⊢; omega, rfl⟩
  case out => rintro o ⟨t, _, _, h⟩ hn; exact (hn _ h).elim
  case turn =>
    rintro ⟨acc, k⟩ ⟨h1, h2⟩ hc
    have hk : k > 64 := by simp at hc; omega
    dsimp only at h1 h2 ⊢
    rw [padL_big hk] at h1
    have hlen : acc.length + 1 ≤ K := by
      have := congrArg List.length h1
      simp at this; omega
    refine Ex.append ok 2 rfl rfl (Ev.bin ok (Ev.globBytes ok rfl gm (by decide)) Ev.cint (Op2.mulOct (by decide) (by decide))) (by simp only [List.length_map]; exact small_line (by omega)) ?_
    refine Ex.aug ok 1 rfl rfl Ev.cint Op2.isub (Ex.nil ⟨(acc ++ [ff 63], k - 64), ⟨by rw [List.append_assoc]; exact h1, by dsimp only; omega⟩, by dsimp only; omega, ?_⟩)
    have e : (k : Int) - 64 = ((k - 64 : Nat) : Int) := by omega
    dsimp only
    rw [e, List.map_append]
    exact .keep (.keep (.keep .nil))
  case rest =>
    rintro ρ' ⟨⟨acc, k⟩, h1, h2, h⟩
    injection h with h; subst h
    dsimp only at h1 h2 ⊢
    have hk : ¬ k > 64 := by omega
    have hlen : acc.length + (padL k).length ≤ K := by
      have := congrArg List.length h1
      simp at this; omega
    refine Ex.iff ok (Te.cmp ok (Ev.name ok 1 rfl rfl) Ev.cint Op2.ge) (fun o => o = .next [some (.sh (.name ls)), some (.sh (.int k)), some (.li ((padL K).map .bytes))]) (fun h => ?_) (fun h => ?_) (fun ρ' e => ?_) fun o e hn => (hn _ e).elim
    · have hk2 : 2 ≤ k := by simp at h; omega
      rw [padL_mid hk hk2] at h1 hlen
      refine Ex.append ok 2 rfl rfl (Ev.bin ok (Ev.globBytes ok rfl gm (by decide)) (Ev.bin ok (Ev.name ok 1 rfl rfl) Ev.cint Op2.sub) (Op2.mulOct (by omega) (by omega))) (by simp only [List.length_map]; exact small_line (by omega)) (Ex.nil ?_)
      have e : ((k : Int) - 1).toNat = k - 1 := Int.toNat_sub k 1
      rw [e, ← h1, List.map_append]; rfl
    · have hk2 : ¬ 2 ≤ k := by simp at h; omega
      rw [padL_end hk hk2, List.append_nil] at h1
      subst h1
      exact Ex.nil rfl
    · injection e with e; subst e
      refine Ex.assignO ok 2 rfl (EvO.rev ok rfl gv_list rfl gv_reversed (LName.li 2 rfl rfl)) rfl ?_
      refine Ex.extend ok 2 rfl rfl (Ev.labels ok labK (Ev.name ok 0 rfl rfl)) (.inr rfl) (by simp only [List.length_map, List.length_reverse]; exact small_line (by omega)) ?_
      have e2 : ((padL K).map V.bytes).reverse ++ ls.map .bytes = ((padL K).reverse ++ ls).map .bytes := by simp
      have hg2 : Good ((padL K).reverse ++ ls) := by have := padN_good hg hne; unfold padN at this; rwa [show (255 - wire ls).toNat = K by omega] at this
      rw [← nameR_ok (tl := 106) hg2.small]
      refine Ex.freeze ok (i := 2) rfl ?_
      refine Ex.retR ok (Ev.call (m := 5) ok rfl gv_Name (.inr (by kernel_rfl)) (by decide) (Evs.cons ok (Ev.name ok 2 rfl rfl) Evs.nil rfl) ?_)
      rw [e2]
      exact fn_NameG (fun b hb => hg2.mem hb) (fe_of fun b hb => (hg2.init b hb).1) (by have := hg2.len; omega)
end
def underB (one two : Lbl) : Bool := if (decide ((one.length : Int) < (two.length : Int)) || (absL one != absL two)) = true then false else decide ((slc one (some ((one.length : Int) - (two.length : Int))) none).map blow = two.map blow)
def lessL (one two : Lbl) : Lbl := if underB one two = true then slc one none (some ((one.length : Int) - (two.length : Int))) else one
theorem bord_self : ∀ z : List UInt8, bord z z = .eq
  | [] => rfl
  | a :: z => by
    show (if a < a then Ordering.lt else if a > a then .gt else bord z z) = _
    rw [bord_self z]; simp [UInt8.lt_irrefl]
theorem bord_eq : ∀ x y : List UInt8, bord x y = .eq → x = y
  | [], [], _ => rfl
  | [], _ :: _, h => by simp [bord, Builtin.Bytes.order] at h
  | _ :: _, [], h => by simp [bord, Builtin.Bytes.order] at h
  | a :: x, b :: y, h => by
    have e : bord (a :: x) (b :: y) = if a < b then .lt else if a > b then .gt else bord x y := rfl
    rw [e] at h
    by_cases h1 : a < b
    · rw [if_pos h1] at h; cases h
    · rw [if_neg h1] at h
      by_cases h2 : a > b
      · rw [if_pos h2] at h; cases h
      · rw [if_neg h2] at h
        have n1 : ¬ a.toNat < b.toNat := h1
        have n2 : ¬ b.toNat < a.toNat := h2
        have : a = b := UInt8.toNat.inj (by omega)
        rw [this, bord_eq x y h]
theorem fcGo_cc (x y : List UInt8) (xs ys : Lbl) (k ld : Int) : (blow x = blow y ∧ fcGo (x :: xs) (y :: ys) k ld = fcGo xs ys (k + 1) ld) ∨ (blow x ≠ blow y ∧ (fcGo (x :: xs) (y :: ys) k ld = (if k > 0 then 4 else 0, -1, k) ∨ fcGo (x :: xs) (y :: ys) k ld = (if k > 0 then 4 else 0, 1, k))) := by
  have e : fcGo (x :: xs) (y :: ys) k ld = if (bord (blow x) (blow y) == .lt) = true then (if k > 0 then 4 else 0, -1, k) else if (bord (blow x) (blow y) == .gt) = true then (if k > 0 then 4 else 0, 1, k) else fcGo xs ys (k + 1) ld := rfl
  cases hb : bord (blow x) (blow y) with
  | lt =>
    refine .inr ⟨(fun q => by rw [q, bord_self] at hb; cases hb), .inl (by rw [e, hb]; rfl)⟩
  | gt =>
    refine .inr ⟨(fun q => by rw [q, bord_self] at hb; cases hb), .inr (by rw [e, hb]; rfl)⟩
  | eq => exact .inl ⟨bord_eq _ _ hb, by rw [e, hb]; rfl⟩
theorem fcGo_zero : ∀ (xs ys : Lbl) (k ld : Int), ld = (xs.length : Int) - ys.length → ((fcGo xs ys k ld).2.1 = 0 ↔ xs.map blow = ys.map blow)
  | [], [], k, ld, h => by subst h; simp [fcGo]
  | [], y :: ys, k, ld, h => by
    have : (fcGo [] (y :: ys) k ld).2.1 = ld := rfl
    rw [this]; simp at h ⊢; omega
  | x :: xs, [], k, ld, h => by
    have : (fcGo (x :: xs) [] k ld).2.1 = ld := rfl
    rw [this]; simp at h ⊢; omega
  | x :: xs, y :: ys, k, ld, h => by
    rcases fcGo_cc x y xs ys k ld with ⟨h1, h2⟩ | ⟨h1, h2 | h2⟩
    · rw [h2, fcGo_zero xs ys (k + 1) ld (by rw [h]; simp; omega)]
      simp [h1]
    · rw [h2]; simp [h1]
    · rw [h2]; simp [h1]
theorem fcGo_rel : ∀ (xs ys : Lbl) (k ld : Int), ld = (xs.length : Int) - ys.length → (((fcGo xs ys k ld).1 = 2 ∨ (fcGo xs ys k ld).1 = 3) ↔ (ys.length ≤ xs.length ∧ (xs.take ys.length).map blow = ys.map blow))
  | [], [], k, ld, h => by subst h; simp [fcGo]
  | [], y :: ys, k, ld, h => by
    have : (fcGo [] (y :: ys) k ld).1 = if ld < 0 then 1 else if ld > 0 then 2 else 3 := rfl
    rw [this, if_pos (by rw [h]; simp <;> omega)]; simp
  | x :: xs, [], k, ld, h => by
    have : (fcGo (x :: xs) [] k ld).1 = if ld < 0 then 1 else if ld > 0 then 2 else 3 := rfl
    have h0 : ld > 0 := by rw [h]; simp <;> omega
    rw [this, if_neg (by omega), if_pos h0]; simp
  | x :: xs, y :: ys, k, ld, h => by
    rcases fcGo_cc x y xs ys k ld with ⟨h1, h2⟩ | ⟨h1, h2 | h2⟩
    · rw [h2, fcGo_rel xs ys (k + 1) ld (by rw [h]; simp; omega)]
      simp [h1]
    · rw [h2]; simp only [List.length_cons, List.take_succ_cons, List.map_cons, List.cons.injEq]
      constructor
      · intro q; exfalso; split at q <;> omega
      · rintro ⟨_, q, _⟩; exact (h1 q).elim
    · rw [h2]; simp only [List.length_cons, List.take_succ_cons, List.map_cons, List.cons.injEq]
      constructor
      · intro q; exfalso; split at q <;> omega
      · rintro ⟨_, q, _⟩; exact (h1 q).elim
theorem fc_same {a b : Lbl} (h : absL a = absL b) : fc a b = fcGo a.reverse b.reverse 0 ((a.length : Int) - b.length) := by
  unfold fc; rw [h, if_neg]
  generalize absL b = c
  cases c <;> decide
theorem fc_diff {a b : Lbl} (h : absL a ≠ absL b) : fc a b = if absL a = true then (0, 1, 0) else (0, -1, 0) := by
  unfold fc; rw [if_pos]
  revert h
  generalize absL b = c
  generalize absL a = d
  cases c <;> cases d <;> decide
theorem absL_blow (a : Lbl) : absL (a.map blow) = absL a := by
  unfold absL
  rw [List.getLast?_map]
  cases q : a.getLast? with
  | none => rfl
  | some b =>
    cases b with
    | nil => rfl
    | cons c r => simp [blow]
theorem fc_zero (a b : Lbl) : (fc a b).2.1 = 0 ↔ a.map blow = b.map blow := by
  by_cases h : absL a = absL b
  · rw [fc_same h, fcGo_zero _ _ _ _ (by simp), List.map_reverse, List.map_reverse, List.reverse_inj]
  · rw [fc_diff h]
    constructor
    · intro q; split at q <;> simp at q
    · intro q; exfalso; apply h; rw [← absL_blow a, ← absL_blow b, q]
theorem blow_nil {b : List UInt8} : blow b = [] ↔ b = [] := by unfold blow; simp
theorem map_root {a : Lbl} : a.map blow = [[]].map blow ↔ a = [[]] := by
  constructor
  · intro h
    cases a with
    | nil => simp at h
    | cons b r =>
      cases r with
      | nil => 
        simp only [List.map_cons, List.map_nil, List.cons.injEq, and_true] at h
        have : blow b = [] := by rw [h]; rfl
        rw [blow_nil.mp this]
      | cons c r => simp at h
  · rintro rfl; rfl
theorem parR_eq (a : Lbl) : parR a = if a = [[]] ∨ a = [] then .exc (.ref 142) else .ok (.name (a.drop 1)) := by
  unfold parR
  have e1 : (fc a [[]]).2.1 = 0 ↔ a = [[]] := (fc_zero _ _).trans map_root
  have e2 : (fc a []).2.1 = 0 ↔ a = [] := (fc_zero _ _).trans (by simp)
  have e3 : slc a (some (1 : Int)) none = a.drop 1 := by
    cases a with
    | nil => rfl
    | cons b r => exact slc_hi (b :: r) 1 (by simp)
  rw [e3]
  by_cases h : a = [[]] ∨ a = []
  · rw [if_pos h, if_pos (by simpa [e1, e2] using h)]
  · rw [if_neg h, if_neg (by simpa [e1, e2] using h)]
theorem subB_eq (a b : Lbl) : subB a b = underB a b := by
  unfold subB underB
  by_cases h : absL a = absL b
  · have hr := fcGo_rel a.reverse b.reverse 0 ((a.length : Int) - b.length) (by simp)
    rw [fc_same h]
    have key : ((decide ((fcGo a.reverse b.reverse 0 ((a.length : Int) - b.length)).1 = 2) || decide ((fcGo a.reverse b.reverse 0 ((a.length : Int) - b.length)).1 = 3)) = true) ↔ (b.length ≤ a.length ∧ (a.drop (a.length - b.length)).map blow = b.map blow) := by
      rw [Bool.or_eq_true, decide_eq_true_eq, decide_eq_true_eq, hr]
      simp only [List.length_reverse]
      refine and_congr_right fun hl => ?_
      rw [List.take_reverse, List.map_reverse, List.map_reverse, List.reverse_inj]
    by_cases hl : a.length < b.length
    · rw [if_pos (by simp [hl])]
      rw [Bool.eq_false_iff]
      intro q; have := (key.mp q).1; omega
    · rw [if_neg (by simp [hl, h])]
      have e : slc a (some ((a.length : Int) - (b.length : Int))) none = a.drop (a.length - b.length) := by
        have : ((a.length : Int) - (b.length : Int)) = ((a.length - b.length : Nat) : Int) := by omega
        rw [this]; exact slc_hi _ _ (by omega)
      rw [e]
      by_cases hm : (a.drop (a.length - b.length)).map blow = b.map blow
      · rw [key.mpr ⟨by omega, hm⟩, decide_eq_true hm]
      · rw [decide_eq_false hm, Bool.eq_false_iff]
        intro q; exact hm (key.mp q).2
  · have hne : (absL a != absL b) = true := by simpa using h
    rw [if_pos (by rw [hne, Bool.or_true]), fc_diff h]
    split <;> rfl
theorem under_spec {a b : Lbl} (h : underB a b = true) : b.length ≤ a.length ∧ absL a = absL b ∧ (a.drop (a.length - b.length)).map blow = b.map blow := by
  unfold underB at h
  split at h
  · cases h
  · rename_i q
    simp only [Bool.or_eq_true, decide_eq_true_eq, not_or, bne_iff_ne, ne_eq, Classical.not_not] at q
    have hl : b.length ≤ a.length := by omega
    have e : slc a (some ((a.length : Int) - (b.length : Int))) none = a.drop (a.length - b.length) := by
      have : ((a.length : Int) - (b.length : Int)) = ((a.length - b.length : Nat) : Int) := by omega
      rw [this]; exact slc_hi _ _ (by omega)
    rw [e] at h
    exact ⟨hl, q.2, by simpa using h⟩
theorem lessL_eq {a b : Lbl} : lessL a b = if underB a b = true then a.take (a.length - b.length) else a := by
  unfold lessL
  split
  · rename_i h
    have hl := (under_spec h).1
    have : ((a.length : Int) - (b.length : Int)) = ((a.length - b.length : Nat) : Int) := by omega
    rw [this]; exact slc_lo _ _ (by omega)
  · rfl
theorem relL_eq {a b : Lbl} (hb : 0 < b.length) : relL a b = lessL a b := by
  rw [lessL_eq]
  unfold relL
  rw [subB_eq]
  split
  · rw [slc_upto, if_neg (by omega)]
  · rfl
theorem wire_blow {a b : Lbl} (h : a.map blow = b.map blow) : wire a = wire b := by
  have e : ∀ l : Lbl, wire (l.map blow) = wire l := fun l => by unfold wire; rw [List.map_map]; congr 1; exact List.map_congr_left fun b _ => by simp [blow_len]
  rw [← e a, ← e b, h]
theorem abs_take {a : Lbl} (h : Good a) {k : Nat} (hk : k < a.length) : absL (a.take k) = false := by
  rw [Bool.eq_false_iff]
  intro q
  unfold absL at q
  have q : (a.take k).getLast? = some [] := by simpa using q
  have hm : ([] : List UInt8) ∈ a.dropLast := by
    have := List.mem_of_getLast? q
    rw [List.dropLast_eq_take]
    exact (List.take_subset_take_left a (by omega : k ≤ a.length - 1)) this
  have := (h.init _ hm).1
  simp at this
section
variable {g : GI} {f : Fm} {n : Nat} {ρ : En}
theorem ExR.ifR {t : Expr} {a rest : List Stmt} {pos : Pos} {c : Bool} {O : Out → Prop} (ok : FmOk g f n) (ht : TeR g f ρ t c) (ha : c = true → ExR g f ρ a (NoN O)) (hb : c = false → ExR g f ρ rest O) : ExR g f ρ (.If t a [] pos :: rest) O :=
  ExR.iff ok ht (fun o => NoN O o ∨ (c = false ∧ o = .next ρ)) (fun h => (ha h).mono fun o => .inl) (fun h => ExR.nil (.inr ⟨h, rfl⟩))
    (fun ρ' h => h.elim (fun h => (h.2 _ rfl).elim) fun ⟨hc, e⟩ => by injection e with e; subst e; exact hb hc) fun o h hn => h.elim (·.1) fun h => (hn _ h.2).elim
theorem ExR.ifF {t : Expr} {a rest : List Stmt} {pos : Pos} {c : Bool} {O : Out → Prop} (ok : FmOk g f n) (ht : TeR g f ρ t c) (hc : c = true → False) (hb : ExR g f ρ rest O) : ExR g f ρ (.If t a [] pos :: rest) O :=
  ExR.ifR ok ht (fun h => (hc h).elim) (fun _ => hb)
theorem ExR.ifJ {t : Expr} {a b rest : List Stmt} {pos : Pos} {c : Bool} {O : Out → Prop} (ok : FmOk g f n) (ρ' : En) (ht : TeR g f ρ t c) (ha : c = true → ExR g f ρ a (fun o => o = .next ρ')) (hb : c = false → ExR g f ρ b (fun o => o = .next ρ')) (h : ExR g f ρ' rest O) : ExR g f ρ (.If t a b pos :: rest) O :=
  ExR.iff ok ht (fun o => o = .next ρ') ha hb (fun ρ'' e => by injection e with e; subst e; exact h) fun o e hn => (hn _ e).elim
end
def eqB (a o : Lbl) : Bool := decide ((fc a o).2.1 = 0)
def decO (c : UInt8) : UInt8 := if c = 91 then 64 else c - 1
def decL (l : List UInt8) : List UInt8 := l.dropLast ++ [decO (l.getLastD 0)]
def predN (l : List UInt8) (rest : Lbl) : Lbl := (if l.getLastD 0 = 0 then l.dropLast else padLab (decL l) (wire rest)) :: rest
def predA (a o : Lbl) (pf : Bool) : Lbl := if eqB a o = true then padN a else match a with
  | [] => []
  | l :: rest => if l = [0] then rest else if pf = true then padN (predN l rest) else predN l rest
theorem padLab_len {l : List UInt8} {k : Int} (hl : l.length ≤ 63) : l.length ≤ (padLab l k).length ∧ (padLab l k).length ≤ 63 := by
  unfold padLab
  split
  · exact ⟨Nat.le_refl _, hl⟩
  · simp only [List.length_append, List.length_replicate]; omega
theorem padLab_wire {l : List UInt8} {k : Int} (hk : (l.length : Int) + 1 + k ≤ 255) : ((padLab l k).length : Int) + 1 + k ≤ 255 := by
  unfold padLab
  split
  · exact hk
  · rename_i h
    have : ¬ 255 - k - l.length - 1 ≤ 0 := by simpa using h
    simp only [List.length_append, List.length_replicate]; omega
theorem decL_len {l : List UInt8} (h : l ≠ []) : (decL l).length = l.length := by
  unfold decL; have := List.length_pos_iff.mpr h; simp; omega
theorem drop1 {l : List UInt8} {rest : Lbl} (h : Good (l :: rest)) : Good rest := by have := h.drop 1; simpa using this
theorem head_len {l : List UInt8} {rest : Lbl} (h : Good (l :: rest)) (hr : rest ≠ []) : 1 ≤ l.length ∧ l.length ≤ 63 := h.init l (by rw [List.dropLast_cons_of_ne_nil hr]; exact .head _)
theorem predN_good {l : List UInt8} {rest : Lbl} (h : Good (l :: rest)) (hr : rest ≠ []) (h0 : l ≠ [0]) : Good (predN l rest) := by
  obtain ⟨h1, h2⟩ := head_len h hr
  have hne : l ≠ [] := fun e => by subst e; simp at h1
  have hs := h.small
  rw [wire_cons] at hs
  unfold predN
  split
  · rename_i hz
    have h3 : 2 ≤ l.length := by
      cases l with
      | nil => simp at h1
      | cons c r =>
        cases r with
        | nil => simp at hz; subst hz; exact (h0 rfl).elim
        | cons d r => simp
    exact (drop1 h).cons (by simp; omega) (by simp; omega) (by rw [wire_cons]; simp; omega)
  · have hd := decL_len hne
    have hp := padLab_len (l := decL l) (k := wire rest) (by omega)
    have hw := padLab_wire (l := decL l) (k := wire rest) (by omega)
    exact (drop1 h).cons (by omega) hp.2 (by rw [wire_cons]; exact hw)
theorem last_b {l : List UInt8} (h : l ≠ []) : l[vidx l.length (-1)]? = some (l.getLastD 0) := by
  have e : vidx l.length (-1) = l.length - 1 := vidx_neg1 _
  rw [e, ← List.getLast?_eq_getElem?, List.getLastD_eq_getLast?]
  cases q : l.getLast? with
  | none => rw [List.getLast?_eq_none_iff] at q; exact (h q).elim
  | some c => rfl
theorem set_last {l : List UInt8} (h : l ≠ []) (x : UInt8) : l.set (vidx l.length (-1)) x = l.dropLast ++ [x] := by
  have e : vidx l.length (-1) = l.length - 1 := vidx_neg1 _
  rw [e]
  have hc := List.dropLast_concat_getLast h
  have hl : l.length - 1 = l.dropLast.length := by simp
  rw [hl]
  conv => lhs; rw [← hc]
  rw [List.set_append_right _ _ (by simp)]
  simp
theorem decO_int (c : UInt8) (h : c ≠ 0) : 0 ≤ (if decide ((c.toNat : Int) = 91) = true then (64 : Int) else c.toNat - 1) ∧ (if decide ((c.toNat : Int) = 91) = true then (64 : Int) else c.toNat - 1) < 256 ∧ (if decide ((c.toNat : Int) = 91) = true then (64 : Int) else c.toNat - 1).toNat.toUInt8 = decO c :=
  u8all (P := fun c => c ≠ 0 → 0 ≤ (if decide ((c.toNat : Int) = 91) = true then (64 : Int) else c.toNat - 1) ∧ (if decide ((c.toNat : Int) = 91) = true then (64 : Int) else c.toNat - 1) < 256 ∧ (if decide ((c.toNat : Int) = 91) = true then (64 : Int) else c.toNat - 1).toNat.toUInt8 = decO c) (by decide +kernel) c h
section
variable {gp : GP}
theorem gv_padname : GV (gi gp) "_pad_to_max_name" (.ref 452) := GV.glob (by kernel_rfl) (by rfl)
theorem gv_padlab : GV (gi gp) "_pad_to_max_label" (.ref 459) := GV.glob (by kernel_rfl) (by rfl)
theorem bind3 {fd : FuncData} {a b c : Str} (h : ∀ v u t, bindArgs fd ⟨[v, u, t], []⟩ = pure [(a, v), (b, u), (c, t)]) : ∀ (vs : List Value) (s : Shared), vs.length = 3 → BindsTo s fd ⟨vs, []⟩ ([a, b, c].zip (vs ++ [])) := by
  intro vs s hv
  refine all3 (P := fun vs => BindsTo s fd ⟨vs, []⟩ ([a, b, c].zip (vs ++ []))) (fun v u t => ?_) vs hv
  show BindsTo s fd ⟨[v, u, t], []⟩ ([a, b, c].zip ([v, u, t] ++ []))
  exact BindsTo.of_eq (h v u t)
theorem fn_pred {a o : Lbl} {pf : Bool} (ha : Good a) (ho : Good o) (hne : a ≠ []) (h : eqB a o = false → 2 ≤ a.length) : FnR (gi gp) 8 (.ref 466) [.name a, .name o, .bool pf] (.ok (.name (predA a o pf))) := by
  have la := ha.len
  have lo' := ho.len
  refine FnR.introM (n := 7) (names := ["name", "origin", "prefix_ok"]) (loc := ["least_significant_label", "least_octet", "suffix_labels", "new_labels", "octets", "octet"]) (xs := []) (dx := []) (by rfl) (by kernel_rfl) (fun vs s hv _ => bind3 (fun v u t => by rfl) vs s hv) (fun _ _ => by simp only [RepL]) (by decide +kernel) rfl (by decide +kernel) (by decide +kernel) ?_
  intro f₀ ok
  refine ExR.ifR ok (c := eqB a o) (Te.up (Te.cmp ok (Ev.name ok 0 rfl rfl) (Ev.name ok 1 rfl rfl) ((op_eq (by omega) (by omega)).up (by decide)))) (fun hq => ?_) (fun hq => ?_)
  · unfold predA; rw [if_pos hq]
    exact Ex.up (Ex.retN ok (Ev.call ok rfl gv_padname (.inr (by kernel_rfl)) (m := 6) (by decide) (Evs.cons ok (Ev.name ok 0 rfl rfl) Evs.nil rfl) (fn_padname ha hne)) retO)
  have h2 := h hq
  unfold predA; rw [if_neg (by rw [hq]; decide)]
  obtain ⟨l, rest, rfl⟩ : ∃ l rest, a = l :: rest := by cases a with | nil => exact (hne rfl).elim | cons l r => exact ⟨l, r, rfl⟩
  have hr : rest ≠ [] := fun e => by subst e; simp at h2
  obtain ⟨l1, l63⟩ := head_len ha hr
  have lne : l ≠ [] := fun e => by subst e; simp at l1
  obtain ⟨tk, gmin⟩ := gv_mino (gp := gp)
  dsimp only
  refine ExR.assign (d := .bytes l) ok 3 rfl (Ev.up (Ev.subName (m := 1) ok (by decide) (Ev.name ok 0 rfl rfl) Ev.cint (by kernel_rfl) (by kernel_rfl) (by kernel_rfl) (fn_item (i := 0) rfl))) ?_
  refine ExR.ifR ok (c := (l == [0])) (Te.up (Te.cmp ok (Ev.name ok 3 rfl rfl) (Ev.globBytes ok rfl gmin (by decide)) Op2.eqBy)) (fun hq => ?_) (fun hq => ?_)
  · have e : l = [0] := by simpa using hq
    rw [if_pos e]
    have hp : parR (l :: rest) = .ok (.name rest) := by
      rw [parR_eq, if_neg]
      · rfl
      · rintro (q | q)
        · simp at q; exact hr q.2
        · cases q
    exact Ex.up (Ex.retN ok (Ev.meth0 (r := .ok (.name rest)) ok parM (m := 7) (by decide) (Ev.name ok 0 rfl rfl) (hp ▸ fn_par ha)) retO)
  have l0 : l ≠ [0] := fun e => by subst e; simp at hq
  rw [if_neg l0]
  have hg := predN_good ha hr l0
  have hrg := drop1 ha
  have lr := hrg.len
  refine ExR.then (Ex.assign ok 4 rfl (Ev.sub ok (Ev.name ok 3 rfl rfl) (Ev.neg Ev.cint) (.inr (.inr rfl)) (Op2.itemBytes (last_b lne) (by omega))) (Ex.nil rfl)) ?_
  have e1 : slc ((l :: rest).map V.bytes) (some (1 : Int)) none = rest.map V.bytes := (slc_hi ((l :: rest).map V.bytes) 1 (by simp)).trans (by simp)
  refine ExR.then (Ex.assign (d := .tup (rest.map .bytes)) ok 5 rfl (e1 ▸ Ev.sliceTup ok (Ev.labels ok labK (Ev.name ok 0 rfl rfl)) (EvP.at Ev.cint) EvP.no) (Ex.nil rfl)) ?_
  obtain ⟨tk0, gmv⟩ := gv_minv (gp := gp)
  obtain ⟨tk1, glsq⟩ := gv_lsq (gp := gp)
  obtain ⟨tk2, gat⟩ := gv_atv (gp := gp)
  obtain ⟨x, hx⟩ : ∃ x, predN l rest = x :: rest := ⟨_, rfl⟩
  refine ExR.ifJ ok [some (.sh (.name (l :: rest))), some (.sh (.name o)), some (.sh (.bool pf)), none, none, some (.sh (.tup (rest.map .bytes))), some (.li [.bytes x]), none, none] (Te.up (Te.cmp ok (Ev.name ok 4 rfl rfl) (Ev.globInt ok rfl gmv) Op2.eq)) (fun hz => ?_) (fun hz => ?_) ?_
  · have hz' : l.getLastD 0 = 0 := UInt8.toNat.inj (by simpa using hz)
    have hx' : x = slc l none (some (-1)) := by unfold predN at hx; rw [if_pos hz'] at hx; rw [slc_init]; injection hx with hx _; exact hx.symm
    subst hx'
    exact Ex.up (Ex.assignO ok 6 rfl (EvO.listD ok (Evs.cons ok (Ev.sliceBytes ok (Ev.name ok 3 rfl rfl) EvP.no (EvP.at (Ev.neg Ev.cint))) Evs.nil rfl) (by simp)) rfl (Ex.weak (.keep (.keep (.keep (.drop (.drop (.keep (.keep (.keep (.keep .nil))))))))) (Ex.nil rfl)))
  · have hz' : l.getLastD 0 ≠ 0 := fun e => by rw [e] at hz; simp at hz
    have hx' : x = padLab (decL l) (wire rest) := by unfold predN at hx; rw [if_neg hz'] at hx; injection hx with hx _; exact hx.symm
    subst hx'
    obtain ⟨d0, d1, d2⟩ := decO_int (l.getLastD 0) hz'
    refine ExR.assignO ok 7 rfl (EvOR.ba ok rfl gv_ba (Ev.name ok 3 rfl rfl)) rfl (Ex.up ?_)
    refine Ex.assign ok 8 rfl (Ev.subBa ok (j := 7) rfl rfl (Ev.neg Ev.cint) (last_b lne) (by omega)) ?_
    refine Ex.ifJ ok [some (.sh (.name (l :: rest))), some (.sh (.name o)), some (.sh (.bool pf)), some (.sh (.bytes l)), some (.sh (.int (l.getLastD 0).toNat)), some (.sh (.tup (rest.map .bytes))), none, some (.ba l), some (.sh (.int (if decide (((l.getLastD 0).toNat : Int) = 91) = true then (64 : Int) else (l.getLastD 0).toNat - 1)))]
      (Te.cmp ok (Ev.name ok 8 rfl rfl) (Ev.globInt ok rfl glsq) Op2.eq) (fun hc => ?_) (fun hc => ?_) ?_
    · rw [if_pos hc]
      exact Ex.assign ok 8 rfl (Ev.globInt ok rfl gat) (Ex.nil rfl)
    · rw [if_neg (by rw [hc]; decide)]
      exact Ex.aug ok 8 rfl rfl Ev.cint Op2.isub (Ex.nil rfl)
    refine Ex.storeBa ok 7 rfl rfl (Ev.name ok 8 rfl rfl) (Ev.neg Ev.cint) d0 d1 (List.getElem?_eq_some_iff.mp (last_b lne)).1 (by omega) ?_
    rw [d2, set_last lne]
    refine Ex.assign ok 3 rfl (Ev.bytesBa ok rfl gv_bytes (i := 7) rfl rfl) ?_
    refine Ex.assignO ok 6 rfl (EvO.listD ok (Evs.cons ok (Ev.call ok rfl gv_padlab (.inr (by kernel_rfl)) (m := 2) (by decide) (Evs.cons ok (Ev.name ok 3 rfl rfl) (Evs.cons ok (Ev.name ok 5 rfl rfl) Evs.nil rfl) rfl) (fn_padlab (by show (decL l).length ≤ 63; rw [decL_len lne]; exact l63) hrg.small)) Evs.nil rfl) (by simp)) rfl ?_
    exact Ex.weak (.keep (.keep (.keep (.drop (.drop (.keep (.keep (.drop (.drop .nil))))))))) (Ex.nil rfl)
  refine Ex.up ?_
  refine Ex.extend ok 6 rfl rfl (Ev.name ok 5 rfl rfl) (.inr rfl) (by simp only [List.length_map, List.length_singleton]; exact small_line (by omega)) ?_
  refine Ex.freeze ok (i := 6) rfl ?_
  have e3 : [V.bytes x] ++ rest.map .bytes = (predN l rest).map .bytes := by rw [hx]; rfl
  have lg := hg.len
  have fN := fn_NameG (gp := gp) (ls := predN l rest) (fun b hb => hg.mem hb) (fe_of fun b hb => (hg.init b hb).1) (by omega)
  rw [nameR_ok hg.small] at fN
  rw [e3]
  refine Ex.assign ok 0 rfl (Ev.call (m := 5) ok rfl gv_Name (.inr (by kernel_rfl)) (by decide) (Evs.cons ok (Ev.name ok 6 rfl rfl) Evs.nil rfl) fN) ?_
  refine Ex.ite ok (Te.val (Ev.name ok 2 rfl rfl)) (fun h => ?_) (fun h => ?_)
  · rw [if_pos h]
    exact Ex.retV ok (Ev.call ok rfl gv_padname (.inr (by kernel_rfl)) (m := 6) (by decide) (Evs.cons ok (Ev.name ok 0 rfl rfl) Evs.nil rfl) (fn_padname hg (by rw [hx]; simp)))
  · rw [if_neg (by rw [h]; decide)]
    exact Ex.retV ok (Ev.name ok 0 rfl rfl)
end
def incO (c : UInt8) : UInt8 := if c = 64 then 91 else c + 1
def cutL : List UInt8 → Option (List UInt8)
  | [] => none
  | c :: r => match cutL r with
    | some r' => some (c :: r')
    | none => if c = 255 then none else some [incO c]
theorem cut_none : ∀ {l : List UInt8}, (∀ c ∈ l, c = 255) → cutL l = none
  | [], _ => rfl
  | c :: r, h => by
    unfold cutL
    rw [cut_none fun d hd => h d (.tail _ hd), h c (.head _)]; rfl
theorem cut_at : ∀ {l : List UInt8} {i : Nat} {c : UInt8}, l[i]? = some c → c ≠ 255 → (∀ d ∈ l.drop (i + 1), d = 255) → cutL l = some (l.take i ++ [incO c])
  | [], i, c, h, _, _ => by simp at h
  | d :: r, 0, c, h, hc, hall => by
    simp at h; subst h
    unfold cutL
    rw [cut_none (by simpa using hall)]
    simp [hc]
  | d :: r, i + 1, c, h, hc, hall => by
    unfold cutL
    rw [cut_at (by simpa using h) hc (by simpa using hall)]
    simp
theorem cut_len {l l' : List UInt8} (h : cutL l = some l') : 1 ≤ l'.length ∧ l'.length ≤ l.length := by
  induction l generalizing l' with
  | nil => cases h
  | cons c r ih =>
    unfold cutL at h
    cases q : cutL r with
    | some r' => rw [q] at h; injection h with h; subst h; have := ih q; simp; omega
    | none =>
      rw [q] at h
      dsimp only at h
      split at h
      · cases h
      · injection h with h; subst h; simp
theorem incO_int (c : UInt8) (h : c ≠ 255) : 0 ≤ (if decide ((c.toNat : Int) = 64) = true then (91 : Int) else c.toNat + 1) ∧ (if decide ((c.toNat : Int) = 64) = true then (91 : Int) else c.toNat + 1) < 256 ∧ (if decide ((c.toNat : Int) = 64) = true then (91 : Int) else c.toNat + 1).toNat.toUInt8 = incO c :=
  u8all (P := fun c => c ≠ 255 → 0 ≤ (if decide ((c.toNat : Int) = 64) = true then (91 : Int) else c.toNat + 1) ∧ (if decide ((c.toNat : Int) = 64) = true then (91 : Int) else c.toNat + 1) < 256 ∧ (if decide ((c.toNat : Int) = 64) = true then (91 : Int) else c.toNat + 1).toNat.toUInt8 = incO c) (by decide +kernel) c h
def nxtA (o : Lbl) : Lbl → Lbl
  | [] => o
  | l :: rest => if eqB (l :: rest) o = true then o else if l.length < 63 ∧ wire ((l ++ [0]) :: rest) ≤ 255 then (l ++ [0]) :: rest else match cutL l with
    | some l' => l' :: rest
    | none => nxtA o rest
def succA (a o : Lbl) (pf : Bool) : Lbl := if pf = true ∧ wire ([0] :: a) ≤ 255 then [0] :: a else nxtA o a
def Und (a o : Lbl) : Prop := ∃ own org, a = own ++ org ∧ org.map blow = o.map blow ∧ org ≠ []
theorem Und.ne {a o : Lbl} (h : Und a o) : a ≠ [] := by
  obtain ⟨own, org, rfl, _, h3⟩ := h
  intro e; exact h3 (List.append_eq_nil_iff.mp e).2
theorem Und.step {a o : Lbl} (h : Und a o) (hq : eqB a o = false) : ∃ l rest, a = l :: rest ∧ Und rest o := by
  obtain ⟨own, org, rfl, h2, h3⟩ := h
  cases own with
  | nil =>
    exfalso
    have : eqB ([] ++ org) o = true := by unfold eqB; rw [decide_eq_true_eq, fc_zero]; exact h2
    rw [this] at hq; cases hq
  | cons l own => exact ⟨l, own ++ org, rfl, own, org, rfl, h2, h3⟩
theorem vdown_at {a : Int} {n k : Nat} {d : V} (h : (vdown a n)[k]? = some d) : k < n ∧ d = .int (a - (k : Int)) := by
  simp only [vdown, List.getElem?_map, Option.map_eq_some_iff] at h
  obtain ⟨i, hi, rfl⟩ := h
  obtain ⟨q1, q2⟩ := List.getElem?_eq_some_iff.mp hi
  simp at q1 q2; subst q2
  exact ⟨q1, rfl⟩
theorem nxtA_eq {t o : Lbl} (h : eqB t o = true) : nxtA o t = o := by
  cases t with
  | nil => rfl
  | cons l r => unfold nxtA; rw [if_pos h]
theorem vidx_nat {n i : Nat} : vidx n (i : Int) = i := by unfold vidx; rw [if_neg (by omega)]; simp
theorem slc_cut {l : List UInt8} {i : Nat} {v : UInt8} (h : i < l.length) : slc (l.set i v) none (some ((i : Int) + 1)) = l.take i ++ [v] := by
  have e : ((i : Int) + 1) = ((i + 1 : Nat) : Int) := by omega
  rw [e, slc_lo _ _ (by simp; omega), List.take_add_one, List.take_set, List.getElem?_set_self h]
  rw [List.set_eq_of_length_le (by simp; omega)]
  rfl
section
variable {gp : GP}
theorem kn_pref : ∃ v, nsIn (gi gp).K mainGlobals "_SUCCESSOR_PREFIX" = some (some v) ∧ KName (gi gp).K (gi gp).C [[0]] v :=
  ⟨_, by rfl, ⟨_, _, _, _, _, [_], _, _, rfl, by rfl, by rfl, by rfl, by simp [sizeLine], by simp [sizeLine], [_], rfl, rfl⟩⟩
theorem op_ne {a b : Lbl} (ha : a.length ≤ 1000) (hb : b.length ≤ 1000) : Op2 (gi gp) 5 (compareOp .NotEq) (.name a) (.name b) (.ok (.bool (!eqB a b))) := by
  have e : (!eqB a b) = decide ((fc a b).2.1 ≠ 0) := by unfold eqB; rw [decide_not]
  rw [e]
  exact Op2.cmpName (by decide) notF (by kernel_rfl) (by kernel_rfl) (fn_neN ha hb)
theorem pref_con {a : Lbl} : conR [[0]] a = nameR 106 ([0] :: a) := by
  unfold conR
  rw [if_neg (by simp [absL])]; rfl
theorem good_pref : Good [[0]] := ⟨(fun _ h => nomatch h), (fun b h => by simp at h; subst h; decide), by decide⟩
theorem fn_succ {a o : Lbl} {pf : Bool} (ha : Good a) (ho : Good o) (hu : Und a o) : FnR (gi gp) 8 (.ref 473) [.name a, .name o, .bool pf] (.ok (.name (succA a o pf))) := by
  have la := ha.len
  have lo' := ho.len
  refine FnR.introTM (n := 7) (names := ["name", "origin", "prefix_ok"]) (loc := ["least_significant_label", "new_labels", "octets", "i", "octet"]) (xs := []) (dx := []) (by rfl) (by kernel_rfl) (fun vs s hv _ => bind3 (fun v u t => by rfl) vs s hv) (fun _ _ => by simp only [RepL]) (by decide +kernel) rfl (by decide +kernel) (by decide +kernel) ?_
  intro f₀ ok hst hfr
  obtain ⟨v, e1, e2⟩ := kn_pref (gp := gp)
  -- the prefix
  refine ExR.iff ok (Te.up (Te.val (Ev.name ok 2 rfl rfl))) (fun o' => (∃ d, o' = .ret d ∧ RetO (.ok (.name (succA a o pf))) o') ∨ (o' = .next [some (.sh (.name a)), some (.sh (.name o)), none, none, none, none, none, none] ∧ succA a o pf = nxtA o a)) (fun hp => Ex.up ?_) (fun hp => Ex.up ?_) ?_ ?_
  · refine Ex.tryPass (O₁ := fun o' => (o' = .ret (.name ([0] :: a)) ∧ wire ([0] :: a) ≤ 255) ∨ (o' = .exc (.ref 106) [some (.sh (.name a)), some (.sh (.name o)), some (.sh (.bool pf)), none, none, none, none, none] ∧ ¬ wire ([0] :: a) ≤ 255)) ok hst hfr (.inl excTooLong.ex) rfl rfl ?_ ?_ ?_ ?_
    · have hcon := fn_con (gp := gp) good_pref ha
      rw [pref_con] at hcon
      refine Ex.ret ok (Ev.meth ok conM (m := 6) (by decide) (Ev.globName ok rfl (GV.glob e1 (by rfl)) e2) (Evs.cons ok (Ev.name ok 0 rfl rfl) Evs.nil rfl) hcon) (fun d h => ?_) (fun c h => ?_)
      · unfold nameR at h
        split at h
        · cases h
        · injection h with h; subst h; exact .inl ⟨rfl, by omega⟩
      · unfold nameR at h
        split at h
        · injection h with h; subst h; exact .inr ⟨rfl, by omega⟩
        · cases h
    · rintro ρ' (⟨h, _⟩ | ⟨h, _⟩) <;> cases h
    · rintro o' (⟨rfl, h⟩ | ⟨rfl, h⟩) h1 h2
      · refine .inl ⟨_, rfl, ?_⟩
        unfold succA; rw [if_pos ⟨hp, h⟩]; exact retO
      · exact (h2 _ _ rfl).elim
    · rintro c ρ' (⟨h, _⟩ | ⟨h, hw⟩)
      · cases h
      · injection h with h1 h2; subst h1 h2
        refine ⟨excTooLong.hc, Ex.weak (.keep (.keep (.drop (.keep (.keep (.keep (.keep (.keep .nil)))))))) (Ex.nil (.inr ⟨rfl, ?_⟩))⟩
        unfold succA; rw [if_neg fun q => hw q.2]
  · refine Ex.weak (.keep (.keep (.drop (.keep (.keep (.keep (.keep (.keep .nil)))))))) (Ex.nil (.inr ⟨rfl, ?_⟩))
    unfold succA; rw [if_neg fun q => by rw [hp] at q; cases q.1]
  rotate_left
  · rintro o' (⟨d, _, h⟩ | ⟨h, _⟩) hn
    · exact h
    · exact (hn _ h).elim
  rintro ρ' (⟨d, h, _⟩ | ⟨h, hsn⟩)
  · cases h
  injection h with h; subst h
  rw [hsn]
  obtain ⟨tk, gmin⟩ := gv_mino (gp := gp)
  obtain ⟨tk1, gmax⟩ := gv_maxv (gp := gp)
  obtain ⟨tk2, gat⟩ := gv_atv (gp := gp)
  obtain ⟨tk3, glsq⟩ := gv_lsq (gp := gp)
  refine ExR.seq (O₁ := fun o' => (∃ d, o' = .ret d ∧ RetO (.ok (.name (nxtA o a))) o') ∨ ∃ t, o' = .next [some (.sh (.name t)), some (.sh (.name o)), none, none, none, none, none, none] ∧ nxtA o a = o)
    (ExR.while (τ := Lbl) ok (fun t => [some (.sh (.name t)), some (.sh (.name o)), none, none, none, none, none, none]) (fun t => Good t ∧ Und t o ∧ nxtA o a = nxtA o t) (fun t => t.length) a (Weak.refl _) ⟨ha, hu, rfl⟩ (fun t => !eqB t o) (fun t hJ => Te.cmp ok (Ev.name ok 0 rfl rfl) (Ev.name ok 1 rfl rfl) ((op_ne (by have := hJ.1.len; omega) (by omega)).up (by decide))) ?turn ?done) ?rest ?out
  case done =>
    rintro t ⟨_, _, h3⟩ hc
    exact .inr ⟨t, rfl, by rw [h3]; exact nxtA_eq (by simpa using hc)⟩
  case out =>
    rintro o' (⟨d, _, h⟩ | ⟨t, h, _⟩) hn
    · exact h
    · exact (hn _ h).elim
  case rest =>
    rintro ρ' (⟨d, h, _⟩ | ⟨t, h, he⟩)
    · cases h
    injection h with h; subst h
    rw [he]
    exact Ex.up (Ex.retV ok (Ev.name ok 1 rfl rfl))
  case turn =>
    rintro t ⟨hg, hun, he⟩ hc
    have hq : eqB t o = false := by simpa using hc
    obtain ⟨l, rest, rfl, hun'⟩ := hun.step hq
    have hr := hun'.ne
    obtain ⟨l1, l63⟩ := head_len hg hr
    have lne : l ≠ [] := fun e => by subst e; simp at l1
    have lt := hg.len
    have hrg := drop1 hg
    have lr := hrg.len
    have e1' : slc ((l :: rest).map V.bytes) (some (1 : Int)) none = rest.map V.bytes := (slc_hi ((l :: rest).map V.bytes) 1 (by simp)).trans (by simp)
    have hN : nxtA o (l :: rest) = if l.length < 63 ∧ wire ((l ++ [0]) :: rest) ≤ 255 then (l ++ [0]) :: rest else match cutL l with | some l' => l' :: rest | none => nxtA o rest := by
      rw [nxtA, if_neg (by rw [hq]; decide)]
    rw [he]
    refine ExR.then (Ex.assign (d := .bytes l) ok 3 rfl (Ev.subName (m := 1) ok (by decide) (Ev.name ok 0 rfl rfl) Ev.cint (by kernel_rfl) (by kernel_rfl) (by kernel_rfl) (fn_item (i := 0) rfl)) (Ex.nil rfl)) ?_
    refine ExR.iff ok (Te.up (Te.cmp ok (Ev.callB ok rfl gv_len kept_builtin (Evs.cons ok (Ev.name ok 3 rfl rfl) Evs.nil rfl) Bi.lenBytes) Ev.cint Op2.lt)) (fun o' => (o' = .ret (.name ((l ++ [0]) :: rest)) ∧ l.length < 63 ∧ wire ((l ++ [0]) :: rest) ≤ 255) ∨ (o' = .next [some (.sh (.name (l :: rest))), some (.sh (.name o)), none, some (.sh (.bytes l)), none, none, none, none] ∧ ¬ (l.length < 63 ∧ wire ((l ++ [0]) :: rest) ≤ 255))) (fun hp => Ex.up ?_) (fun hp => Ex.up ?_) ?_ ?_
    · have hlt : l.length < 63 := by simp at hp; omega
      refine Ex.assignO ok 4 rfl (EvO.listD ok (Evs.cons ok (Ev.bin ok (Ev.name ok 3 rfl rfl) (Ev.globBytes ok rfl gmin (by decide)) (Op2.addB (by simp; omega))) Evs.nil rfl) (by simp)) rfl ?_
      refine Ex.extend (es := rest.map .bytes) ok 4 rfl rfl (e1' ▸ Ev.sliceTup ok (Ev.labels ok labK (Ev.name ok 0 rfl rfl)) (EvP.at Ev.cint) EvP.no) (.inr rfl) (by simp only [List.length_map, List.length_singleton]; exact small_line (by omega)) ?_
      refine Ex.freeze ok (i := 4) rfl ?_
      have e3 : [V.bytes (l ++ [0])] ++ rest.map .bytes = ((l ++ [0]) :: rest).map .bytes := rfl
      have fN := fn_NameG (gp := gp) (ls := (l ++ [0]) :: rest)
        (fun b hb => (List.mem_cons.mp hb).elim (fun e => by subst e; simp; omega) fun h => hrg.mem h) (fe_of fun b hb => by
          rw [List.dropLast_cons_of_ne_nil hr] at hb
          exact (List.mem_cons.mp hb).elim (fun e => by subst e; simp) fun h => (hrg.init b h).1) (by simp; omega)
      refine Ex.tryPass (O₁ := fun o' => (o' = .ret (.name ((l ++ [0]) :: rest)) ∧ wire ((l ++ [0]) :: rest) ≤ 255) ∨ (o' = .exc (.ref 106) [some (.sh (.name (l :: rest))), some (.sh (.name o)), none, some (.sh (.bytes l)), some (.sh (.list (((l ++ [0]) :: rest).map .bytes))), none, none, none] ∧ ¬ wire ((l ++ [0]) :: rest) ≤ 255)) ok hst hfr (.inl excTooLong.ex) rfl rfl ?_ ?_ ?_ ?_
      · refine Ex.ret ok (Ev.call (m := 5) ok rfl gv_Name (.inr (by kernel_rfl)) (by decide) (Evs.cons ok (Ev.name ok 4 rfl rfl) Evs.nil rfl) fN) (fun d h => ?_) (fun c h => ?_)
        · unfold nameR at h
          split at h
          · cases h
          · injection h with h; subst h; exact .inl ⟨rfl, by omega⟩
        · unfold nameR at h
          split at h
          · injection h with h; subst h; exact .inr ⟨rfl, by omega⟩
          · cases h
      · rintro ρ' (⟨h, _⟩ | ⟨h, _⟩) <;> cases h
      · rintro o' (⟨rfl, h⟩ | ⟨rfl, h⟩) h1 h2
        · exact .inl ⟨rfl, hlt, h⟩
        · exact (h2 _ _ rfl).elim
      · rintro c ρ' (⟨h, _⟩ | ⟨h, hw⟩)
        · cases h
        · injection h with h1 h2; subst h1 h2
          exact ⟨excTooLong.hc, Ex.weak (.keep (.keep (.keep (.keep (.drop (.keep (.keep (.keep .nil)))))))) (Ex.nil (.inr ⟨rfl, fun q => hw q.2⟩))⟩
    · exact Ex.nil (.inr ⟨rfl, fun q => by simp at hp; omega⟩)
    rotate_left
    · rintro o' (⟨rfl, h⟩ | ⟨h, _⟩) hn
      · refine .inl ⟨_, rfl, ?_⟩
        rw [hN, if_pos h]; exact retO
      · exact (hn _ h).elim
    rintro ρ' (⟨h, _⟩ | ⟨h, hcond⟩)
    · cases h
    injection h with h; subst h
    rw [hN, if_neg hcond]
    refine ExR.assignO ok 5 rfl (EvOR.ba ok rfl gv_ba (Ev.name ok 3 rfl rfl)) rfl (Ex.up ?_)
    refine Ex.seq (O₁ := fun o' => (∃ l', o' = .ret (.name (l' :: rest)) ∧ cutL l = some l') ∨ (o' = .next [some (.sh (.name (l :: rest))), some (.sh (.name o)), none, some (.sh (.bytes l)), none, some (.ba l), none, none] ∧ cutL l = none))
      (Ex.for (τ := Unit) ok 6 rfl (ItSrc.down ok rfl gv_range (Ev.bin ok (Ev.lenBa ok rfl gv_len (i := 5) rfl rfl) Ev.cint Op2.sub) (Ev.neg Ev.cint) (Ev.neg Ev.cint) (by omega) (by omega) (by decide) (by decide))
        (fun _ => [some (.sh (.name (l :: rest))), some (.sh (.name o)), none, some (.sh (.bytes l)), none, some (.ba l), none, none]) (fun k _ => ∀ d ∈ l.drop (l.length - k), d = 255) () (Weak.refl _) (by simp) ?fturn ?fdone) ?frest ?fout
    case fout =>
      rintro o' (⟨l', rfl, h⟩ | ⟨h, _⟩) hn
      · refine .inl ⟨_, rfl, ?_⟩
        rw [h]; exact retO
      · exact (hn _ h).elim
    case fdone =>
      rintro _ hJ
      have e : (vdown ((l.length : Int) - 1) ((l.length : Int) - 1 - -1).toNat).length = l.length := by unfold vdown; simp
      rw [e, Nat.sub_self, List.drop_zero] at hJ
      exact .inr ⟨rfl, cut_none hJ⟩
    case frest =>
      rintro ρ' (⟨l', h, _⟩ | ⟨h, hn⟩)
      · cases h
      injection h with h; subst h
      rw [hn]
      have hp : parR (l :: rest) = .ok (.name rest) := by
        rw [parR_eq, if_neg]
        · rfl
        · rintro (q | q)
          · simp at q; exact hr q.2
          · cases q
      refine Ex.assign (d := .name rest) ok 0 rfl (Ev.meth0 ok parM (m := 7) (by decide) (Ev.name ok 0 rfl rfl) (hp ▸ fn_par hg)) ?_
      refine Ex.weak (ρ' := [some (.sh (.name rest)), some (.sh (.name o)), none, none, none, none, none, none]) (.keep (.keep (.keep (.drop (.keep (.drop (.keep (.keep .nil)))))))) (Ex.nil ⟨rest, ⟨hrg, hun', ?_⟩, by simp, Weak.refl _⟩)
      rfl
    case fturn =>
      rintro k _ d hd hJ
      obtain ⟨hk, rfl⟩ := vdown_at hd
      have hk' : k < l.length := by omega
      obtain ⟨i, hi⟩ : ∃ i : Nat, i = l.length - 1 - k := ⟨_, rfl⟩
      have e1 : (l.length : Int) - 1 - (k : Int) = (i : Int) := by omega
      have hil : i < l.length := by omega
      rw [e1]
      have hli : l[i]? = some l[i] := List.getElem?_eq_getElem hil
      have hdrop : l.drop (l.length - k) = l.drop (i + 1) := by congr 1; omega
      rw [hdrop] at hJ
      have hsub : l[vidx l.length (i : Int)]? = some l[i] := by rw [vidx_nat]; exact hli
      refine Ex.assign ok 7 rfl (Ev.subBa ok (j := 5) rfl rfl (Ev.name ok 6 rfl rfl) hsub (by omega)) ?_
      refine Ex.ifR ok (Te.cmp ok (Ev.name ok 7 rfl rfl) (Ev.globInt ok rfl gmax) Op2.eq) (fun hc => ?_) (fun hc => ?_)
      · have hc' : l[i] = 255 := UInt8.toNat.inj (by show l[i].toNat = 255; simp at hc; omega)
        refine Ex.cont ⟨⟨(), ?_, .keep (.keep (.keep (.keep (.keep (.keep (.drop (.drop .nil)))))))⟩, fun _ h => nomatch h⟩
        intro d hd
        have e : l.length - (k + 1) = i := by omega
        rw [e] at hd
        rw [List.drop_eq_getElem_cons hil] at hd
        rcases List.mem_cons.mp hd with h | h
        · rw [h, hc']
        · exact hJ d h
      have hc' : l[i] ≠ 255 := fun e => by rw [e] at hc; simp at hc
      obtain ⟨d0, d1, d2⟩ := incO_int l[i] hc'
      have hcut := cut_at hli hc' hJ
      have hgl := cut_len hcut
      have hsm := hg.small
      rw [wire_cons] at hsm
      have hg' : Good ((l.take i ++ [incO l[i]]) :: rest) := hrg.cons hgl.1 (by omega) (by rw [wire_cons]; omega)
      refine Ex.ifJ ok [some (.sh (.name (l :: rest))), some (.sh (.name o)), none, some (.sh (.bytes l)), none, some (.ba l), some (.sh (.int i)), some (.sh (.int (if decide ((l[i].toNat : Int) = 64) = true then (91 : Int) else l[i].toNat + 1)))]
        (Te.cmp ok (Ev.name ok 7 rfl rfl) (Ev.globInt ok rfl gat) Op2.eq) (fun hc => ?_) (fun hc => ?_) ?_
      · rw [if_pos hc]
        exact Ex.assign ok 7 rfl (Ev.globInt ok rfl glsq) (Ex.nil rfl)
      · rw [if_neg (by rw [hc]; decide)]
        exact Ex.aug ok 7 rfl rfl Ev.cint Op2.iadd (Ex.nil rfl)
      refine Ex.storeBa ok 5 rfl rfl (Ev.name ok 7 rfl rfl) (Ev.name ok 6 rfl rfl) d0 d1 (by rw [vidx_nat]; exact hil) (by omega) ?_
      rw [d2, vidx_nat]
      refine Ex.assignO ok 4 rfl (EvO.listD ok (Evs.cons ok (Ev.bytesCut ok rfl gv_bytes (i := 5) rfl rfl (Ev.bin ok (Ev.name ok 6 rfl rfl) Ev.cint Op2.add)) Evs.nil rfl) (by simp)) rfl ?_
      rw [slc_cut hil]
      refine Ex.extend (es := rest.map .bytes) ok 4 rfl rfl (e1' ▸ Ev.sliceTup ok (Ev.labels ok labK (Ev.name ok 0 rfl rfl)) (EvP.at Ev.cint) EvP.no) (.inr rfl) (by simp only [List.length_map, List.length_singleton]; exact small_line (by omega)) ?_
      refine Ex.freeze ok (i := 4) rfl ?_
      have e3 : [V.bytes (l.take i ++ [incO l[i]])] ++ rest.map .bytes = ((l.take i ++ [incO l[i]]) :: rest).map .bytes := rfl
      have lg := hg'.len
      have fN := fn_NameG (gp := gp) (ls := (l.take i ++ [incO l[i]]) :: rest) (fun b hb => hg'.mem hb) (fe_of fun b hb => (hg'.init b hb).1) (by omega)
      rw [nameR_ok hg'.small] at fN
      exact Ex.retV' ok (Ev.call (m := 5) ok rfl gv_Name (.inr (by kernel_rfl)) (by decide) (Evs.cons ok (Ev.name ok 4 rfl rfl) Evs.nil rfl) fN) (.inl ⟨_, rfl, hcut⟩)
end
section
variable {g : GI} {f : Fm} {n : Nat} {ρ : En}
theorem Ev.notB {e : Expr} {pos : Pos} {a : Bool} (he : Ev g f ρ e (.ok (.bool a))) : Ev g f ρ (.UnaryOp .Not e pos) (.ok (.bool (!a))) := fun σ s Q E S q ex => by
  refine wpAny_UnaryOp (he σ s _ _ S (fun v d h' tk ed k r => ?_) fun c e' h' tk ec => nomatch ec)
  injection ed with ed; subst ed
  simp only [Rep] at r; subst r
  exact not_value (wpAny_truthy_bool (q _ _ h' tk rfl k (by simp only [Rep])))
end
def moveA (on : Bool) (a o : Lbl) (pf : Bool) : Lbl := if on = true then succA a o pf else predA a o pf
def hrR (on : Bool) (a o : Lbl) (pf : Bool) : Res := if absL o = false then .exc (.ref 94) else if absL a = false then (if 255 < wire (a ++ o) then .exc (.ref 106) else .ok (.name (relL (moveA on (a ++ o) o pf) o))) else if subB a o = false then .exc (.ref 154) else .ok (.name (moveA on a o pf))
theorem nxtA_good {o : Lbl} (ho : Good o) : ∀ {a : Lbl}, Good a → Und a o → Good (nxtA o a)
  | [], _, _ => ho
  | l :: rest, ha, hu => by
    unfold nxtA
    split
    · exact ho
    rename_i hq
    obtain ⟨l', rest', e, hu'⟩ := hu.step (by simpa using hq)
    injection e with e1 e2; subst e1 e2
    have hr := hu'.ne
    obtain ⟨l1, l63⟩ := head_len ha hr
    have hs := ha.small
    rw [wire_cons] at hs
    split
    · rename_i hc
      exact (drop1 ha).cons (by simp) (by simp; omega) hc.2
    · split
      · rename_i l' hl
        have := cut_len hl
        exact (drop1 ha).cons this.1 (by omega) (by rw [wire_cons]; omega)
      · exact nxtA_good ho (drop1 ha) hu'
theorem succA_good {a o : Lbl} {pf : Bool} (ho : Good o) (ha : Good a) (hu : Und a o) : Good (succA a o pf) := by
  unfold succA
  split
  · rename_i h
    exact ha.cons (by decide) (by decide) h.2
  · exact nxtA_good ho ha hu
theorem predA_good {a o : Lbl} {pf : Bool} (ha : Good a) (hu : Und a o) : Good (predA a o pf) := by
  unfold predA
  split
  · exact padN_good ha hu.ne
  · rename_i hq
    obtain ⟨l, rest, rfl, hu'⟩ := hu.step (by simpa using hq)
    dsimp only
    split
    · exact drop1 ha
    · rename_i h0
      have hg := predN_good ha hu'.ne h0
      split
      · exact padN_good hg (by unfold predN; simp)
      · exact hg
theorem moveA_good {on : Bool} {a o : Lbl} {pf : Bool} (ho : Good o) (ha : Good a) (hu : Und a o) : Good (moveA on a o pf) := by
  unfold moveA
  split
  · exact succA_good ho ha hu
  · exact predA_good ha hu
theorem absL_ne {o : Lbl} (h : absL o = true) : o ≠ [] := fun e => by subst e; simp [absL] at h
theorem und_of {a o : Lbl} (ho : absL o = true) (h : subB a o = true) : Und a o := by
  rw [subB_eq] at h
  obtain ⟨h1, h2, h3⟩ := under_spec h
  refine ⟨a.take (a.length - o.length), a.drop (a.length - o.length), (List.take_append_drop _ _).symm, h3, fun e => ?_⟩
  have := congrArg List.length e
  have h4 := List.length_pos_iff.mpr (absL_ne ho)
  simp at this; omega
theorem good_app {a o : Lbl} (ha : Good a) (ho : Good o) (h : absL a = false) (hw : wire (a ++ o) ≤ 255) : Good (a ++ o) := by
  cases o with
  | nil => rw [List.append_nil]; exact ha
  | cons d r =>
    refine ⟨fun c hc => ?_, fun c hc => ?_, hw⟩
    · rw [List.dropLast_append_of_ne_nil (by simp)] at hc
      rcases List.mem_append.mp hc with hc | hc
      · exact ⟨ha.rel h c hc, ha.mem hc⟩
      · exact ho.init c hc
    · rw [List.getLast?_append] at hc
      cases q : (d :: r).getLast? with
      | none => simp at q
      | some e => rw [q] at hc; simp at hc; subst hc; exact ho.last e q
section
variable {gp : GP}
theorem excNeedA : ExcK (gi gp) "NeedAbsoluteNameOrOrigin" 94 := ⟨by kernel_rfl, by kernel_rfl, by kernel_rfl, by kernel_rfl⟩
theorem excNeedS : ExcK (gi gp) "NeedSubdomainOfOrigin" 154 := ⟨by kernel_rfl, by kernel_rfl, by kernel_rfl, by kernel_rfl⟩
theorem gv_asucc : GV (gi gp) "_absolute_successor" (.ref 473) := GV.glob (by kernel_rfl) (by rfl)
theorem gv_apred : GV (gi gp) "_absolute_predecessor" (.ref 466) := GV.glob (by kernel_rfl) (by rfl)
theorem gv_hrc : GV (gi gp) "_handle_relativity_and_call" (.ref 480) := GV.glob (by kernel_rfl) (by rfl)
theorem bind4 {fd : FuncData} {a b c d : Str} (h : ∀ v u t z, bindArgs fd ⟨[v, u, t, z], []⟩ = pure [(a, v), (b, u), (c, t), (d, z)]) : ∀ (vs : List Value) (s : Shared), vs.length = 4 → BindsTo s fd ⟨vs, []⟩ ([a, b, c, d].zip (vs ++ [])) := by
  intro vs s hv
  refine all4 (P := fun vs => BindsTo s fd ⟨vs, []⟩ ([a, b, c, d].zip (vs ++ []))) (fun v u t z => ?_) vs hv
  show BindsTo s fd ⟨[v, u, t, z], []⟩ ([a, b, c, d].zip ([v, u, t, z] ++ []))
  exact BindsTo.of_eq (h v u t z)
theorem fn_pred' {a o : Lbl} {pf : Bool} (ha : Good a) (ho : Good o) (hu : Und a o) : FnR (gi gp) 8 (.ref 466) [.name a, .name o, .bool pf] (.ok (.name (predA a o pf))) :=
  fn_pred ha ho hu.ne fun hq => by
    obtain ⟨l, rest, rfl, hu'⟩ := hu.step hq
    have := List.length_pos_iff.mpr hu'.ne
    simp; omega
theorem fn_hrc {on : Bool} {a o : Lbl} {pf : Bool} (ha : Good a) (ho : Good o) : FnR (gi gp) 9 (.ref 480) [.bool on, .name a, .name o, .bool pf] (hrR on a o pf) := by
  have la := ha.len
  have lo' := ho.len
  refine FnR.introM (n := 8) (names := ["onward", "name", "origin", "prefix_ok"]) (loc := ["relative", "result_name"]) (xs := []) (dx := []) (by rfl) (by kernel_rfl) (fun vs s hv _ => bind4 (fun v u t z => by rfl) vs s hv) (fun _ _ => by simp only [RepL]) (by decide +kernel) rfl (by decide +kernel) (by decide +kernel) ?_
  intro f₀ ok
  refine ExR.ifR ok (Te.up (Te.not (Te.val (Ev.meth0 ok isAbsM (m := 2) (by decide) (Ev.name ok 2 rfl rfl) fn_is_abs)))) (fun h => ?_) (fun h => ?_)
  · have h' : absL o = false := by simpa using h
    unfold hrR; rw [if_pos h']
    exact Ex.up (Ex.raiseOwn ok rfl excNeedA ⟨⟨_, rfl⟩, fun _ h => nomatch h⟩)
  have hao : absL o = true := by simpa using h
  have one := absL_ne hao
  refine ExR.then (Ex.assign ok 4 rfl (Ev.notB (Ev.meth0 ok isAbsM (m := 2) (by decide) (Ev.name ok 1 rfl rfl) fn_is_abs)) (Ex.nil rfl)) ?_
  have hR : hrR on a o pf = if absL a = false then (if 255 < wire (a ++ o) then .exc (.ref 106) else .ok (.name (relL (moveA on (a ++ o) o pf) o))) else if subB a o = false then .exc (.ref 154) else .ok (.name (moveA on a o pf)) := by unfold hrR; rw [if_neg (by rw [hao]; decide)]
  refine ExR.iff ok (c := !absL a) (Te.up (Te.val (Ev.name ok 4 rfl rfl))) (fun o' => (∃ t, Good t ∧ Und t o ∧ hrR on a o pf = .ok (.name (if absL a = false then relL (moveA on t o pf) o else moveA on t o pf)) ∧ o' = .next [some (.sh (.bool on)), some (.sh (.name t)), some (.sh (.name o)), some (.sh (.bool pf)), some (.sh (.bool (!absL a))), none]) ∨ (∃ c ρ, hrR on a o pf = .exc c ∧ o' = .exc c ρ))
    (fun h => Ex.up ?_) (fun h => Ex.up ?_) ?_ ?_
  · have hab : absL a = false := by simpa using h
    have hder : derR a o = nameR 106 (a ++ o) := by
      unfold derR; rw [if_pos (by rw [hab]; rfl)]
      unfold conR; rw [if_neg (by rw [hab]; simp)]
    rw [if_pos hab] at hR
    refine Ex.assignR ok 1 rfl (Ev.meth ok derM (m := 7) (by decide) (Ev.name ok 1 rfl rfl) (Evs.cons ok (Ev.name ok 2 rfl rfl) Evs.nil rfl) (hder ▸ fn_der ha ho)) (fun d h => ?_) (fun c h => ?_)
    · unfold nameR at h
      split at h
      · cases h
      · rename_i hw
        injection h with h; subst h
        rw [if_neg hw] at hR
        exact Ex.nil (.inl ⟨a ++ o, good_app ha ho hab (by omega), ⟨a, o, rfl, rfl, one⟩, by rw [hR, if_pos hab], rfl⟩)
    · unfold nameR at h
      split at h
      · rename_i hw
        injection h with h; subst h
        rw [if_pos hw] at hR
        exact .inr ⟨_, _, hR, rfl⟩
      · cases h
  · have hab : absL a = true := by simpa using h
    rw [if_neg (by rw [hab]; decide)] at hR
    refine Ex.ifR ok (c := !subB a o) (Te.not (Te.val (Ev.meth ok isSubM (m := 5) (by decide) (Ev.name ok 1 rfl rfl) (Evs.cons ok (Ev.name ok 2 rfl rfl) Evs.nil rfl) (fn_is_sub (by omega) (by omega))))) (fun h => ?_) (fun h => ?_)
    · have h' : subB a o = false := by simpa using h
      rw [if_pos h'] at hR
      exact Ex.raiseOwn ok rfl excNeedS ⟨.inr ⟨_, _, hR, rfl⟩, fun _ h => nomatch h⟩
    · have h' : subB a o = true := by simpa using h
      rw [if_neg (by rw [h']; decide)] at hR
      exact Ex.nil (.inl ⟨a, ha, und_of hao h', by rw [hR, if_neg (by rw [hab]; decide)], rfl⟩)
  rotate_left
  · rintro o' (⟨t, _, _, _, h⟩ | ⟨c, ρ, hw, rfl⟩) hn
    · exact (hn _ h).elim
    · rw [hw]; exact ⟨_, rfl⟩
  rintro ρ' (⟨t, ht, hut, hw, h⟩ | ⟨_, _, _, h⟩)
  rotate_left
  · cases h
  injection h with h; subst h
  rw [hw]
  have hm := moveA_good (on := on) (pf := pf) ho ht hut
  refine ExR.ifJ ok [some (.sh (.bool on)), some (.sh (.name t)), some (.sh (.name o)), some (.sh (.bool pf)), some (.sh (.bool (!absL a))), some (.sh (.name (moveA on t o pf)))] (Te.up (Te.val (Ev.name ok 0 rfl rfl))) (fun hon => ?_) (fun hon => ?_) (Ex.up ?_)
  · unfold moveA; rw [if_pos hon]
    exact ExR.assign ok 5 rfl (EvR.call ok rfl gv_asucc (.inr (by kernel_rfl)) (m := 8) (by decide) (Evs.up (Evs.cons ok (Ev.name ok 1 rfl rfl) (Evs.cons ok (Ev.name ok 2 rfl rfl) (Evs.cons ok (Ev.name ok 3 rfl rfl) Evs.nil rfl) rfl) rfl)) (fn_succ ht ho hut)) (ExR.nil rfl)
  · unfold moveA; rw [if_neg (by rw [hon]; decide)]
    exact ExR.assign ok 5 rfl (EvR.call ok rfl gv_apred (.inr (by kernel_rfl)) (m := 8) (by decide) (Evs.up (Evs.cons ok (Ev.name ok 1 rfl rfl) (Evs.cons ok (Ev.name ok 2 rfl rfl) (Evs.cons ok (Ev.name ok 3 rfl rfl) Evs.nil rfl) rfl) rfl)) (fn_pred' ht ho hut)) (ExR.nil rfl)
  refine Ex.ifJ ok [some (.sh (.bool on)), some (.sh (.name t)), some (.sh (.name o)), some (.sh (.bool pf)), some (.sh (.bool (!absL a))), some (.sh (.name (if absL a = false then relL (moveA on t o pf) o else moveA on t o pf)))] (Te.val (Ev.name ok 4 rfl rfl)) (fun hre => ?_) (fun hre => ?_) (Ex.retV ok (Ev.name ok 5 rfl rfl))
  · have h' : absL a = false := by simpa using hre
    rw [if_pos h']
    exact Ex.assign ok 5 rfl (Ev.meth ok relM (m := 6) (by decide) (Ev.name ok 5 rfl rfl) (Evs.cons ok (Ev.name ok 2 rfl rfl) Evs.nil rfl) (fn_rel hm ho)) (Ex.nil rfl)
  · have h' : ¬ absL a = false := by simpa using hre
    rw [if_neg h']
    exact Ex.nil rfl
end
section
variable {g : GI} {f : Fm} {n : Nat} {ρ : En}
theorem ExR.retR {e : Expr} {pos : Pos} {rest : List Stmt} {r : Res} (ok : FmOk g f n) (he : EvR g f ρ e r) : ExR g f ρ (.Return (some e) pos :: rest) (RetO r) := ExR.ret ok he retR1 retR2
end
section
variable {gp : GP}
theorem fn_msucc {a o : Lbl} {pf : Bool} (ha : Good a) (ho : Good o) : FnR (gi gp) 10 (.ref 384) [.name a, .name o, .bool pf] (hrR true a o pf) := by
  refine FnR.introM (n := 9) (names := ["self", "origin", "prefix_ok"]) (loc := []) (xs := []) (dx := []) (by rfl) (by kernel_rfl) (fun vs s hv hK => ?_) (fun _ _ => by simp only [RepL]) (by decide +kernel) rfl (by decide +kernel) (by decide +kernel) ?_
  · obtain ⟨x, y, z, rfl⟩ := eq3 hv
    exact BindsTo.of_defaults rfl (hK _ _ (by rfl)) rfl rfl rfl
  intro f₀ ok
  exact ExR.retR ok (EvR.call ok rfl gv_hrc (.inr (by kernel_rfl)) (m := 9) (by decide) (Evs.up (Evs.cons ok Ev.cbool (Evs.cons ok (Ev.name ok 0 rfl rfl) (Evs.cons ok (Ev.name ok 1 rfl rfl) (Evs.cons ok (Ev.name ok 2 rfl rfl) Evs.nil rfl) rfl) rfl) rfl)) (fn_hrc ha ho))
theorem fn_msucc1 {a o : Lbl} (ha : Good a) (ho : Good o) : FnR (gi gp) 10 (.ref 384) [.name a, .name o] (hrR true a o true) := by
  refine FnR.introM (n := 9) (names := ["self", "origin", "prefix_ok"]) (loc := []) (xs := [.bool true]) (dx := [.bool true]) (by rfl) (by kernel_rfl) (fun vs s hv hK => ?_) (fun _ _ => by simp only [RepL, Rep]; exact ⟨_, _, rfl, rfl, rfl⟩) (by decide +kernel) rfl (by decide +kernel) (by decide +kernel) ?_
  · obtain ⟨x, y, rfl⟩ := eq2 hv
    exact BindsTo.of_defaults rfl (hK _ _ (by rfl)) rfl rfl rfl
  intro f₀ ok
  exact ExR.retR ok (EvR.call ok rfl gv_hrc (.inr (by kernel_rfl)) (m := 9) (by decide) (Evs.up (Evs.cons ok Ev.cbool (Evs.cons ok (Ev.name ok 0 rfl rfl) (Evs.cons ok (Ev.name ok 1 rfl rfl) (Evs.cons ok (Ev.name ok 2 rfl rfl) Evs.nil rfl) rfl) rfl) rfl)) (fn_hrc ha ho))
theorem fn_mpred {a o : Lbl} {pf : Bool} (ha : Good a) (ho : Good o) : FnR (gi gp) 10 (.ref 376) [.name a, .name o, .bool pf] (hrR false a o pf) := by
  refine FnR.introM (n := 9) (names := ["self", "origin", "prefix_ok"]) (loc := []) (xs := []) (dx := []) (by rfl) (by kernel_rfl) (fun vs s hv hK => ?_) (fun _ _ => by simp only [RepL]) (by decide +kernel) rfl (by decide +kernel) (by decide +kernel) ?_
  · obtain ⟨x, y, z, rfl⟩ := eq3 hv
    exact BindsTo.of_defaults rfl (hK _ _ (by rfl)) rfl rfl rfl
  intro f₀ ok
  exact ExR.retR ok (EvR.call ok rfl gv_hrc (.inr (by kernel_rfl)) (m := 9) (by decide) (Evs.up (Evs.cons ok Ev.cbool (Evs.cons ok (Ev.name ok 0 rfl rfl) (Evs.cons ok (Ev.name ok 1 rfl rfl) (Evs.cons ok (Ev.name ok 2 rfl rfl) Evs.nil rfl) rfl) rfl) rfl)) (fn_hrc ha ho))
theorem fn_mpred1 {a o : Lbl} (ha : Good a) (ho : Good o) : FnR (gi gp) 10 (.ref 376) [.name a, .name o] (hrR false a o true) := by
  refine FnR.introM (n := 9) (names := ["self", "origin", "prefix_ok"]) (loc := []) (xs := [.bool true]) (dx := [.bool true]) (by rfl) (by kernel_rfl) (fun vs s hv hK => ?_) (fun _ _ => by simp only [RepL, Rep]; exact ⟨_, _, rfl, rfl, rfl⟩) (by decide +kernel) rfl (by decide +kernel) (by decide +kernel) ?_
  · obtain ⟨x, y, rfl⟩ := eq2 hv
    exact BindsTo.of_defaults rfl (hK _ _ (by rfl)) rfl rfl rfl
  intro f₀ ok
  exact ExR.retR ok (EvR.call ok rfl gv_hrc (.inr (by kernel_rfl)) (m := 9) (by decide) (Evs.up (Evs.cons ok Ev.cbool (Evs.cons ok (Ev.name ok 0 rfl rfl) (Evs.cons ok (Ev.name ok 1 rfl rfl) (Evs.cons ok (Ev.name ok 2 rfl rfl) Evs.nil rfl) rfl) rfl) rfl)) (fn_hrc ha ho))
theorem succM : MethK (gi gp) "successor" 384 := ⟨by kernel_rfl, by kernel_rfl, by kernel_rfl, by kernel_rfl, by kernel_rfl, by decide +kernel⟩
theorem predM : MethK (gi gp) "predecessor" 376 := ⟨by kernel_rfl, by kernel_rfl, by kernel_rfl, by kernel_rfl, by kernel_rfl, by decide +kernel⟩
end
def refI (r : Res) : Int := match r with
  | .exc c => if c = .ref 94 then 1 else if c = .ref 154 then 2 else 3
  | .ok _ => 0
theorem hrR_exc {on pf : Bool} {a o : Lbl} {c : Value} (h : hrR on a o pf = .exc c) : c = .ref 94 ∨ c = .ref 154 ∨ c = .ref 106 := by
  unfold hrR at h
  split at h
  · injection h with h; exact .inl h.symm
  · split at h
    · split at h
      · injection h with h; exact .inr (.inr h.symm)
      · cases h
    · split at h
      · injection h with h; exact .inr (.inl h.symm)
      · cases h
section
variable {gp : GP}
theorem fn_refusal {on pf : Bool} {a o : Lbl} (ha : Good a) (ho : Good o) : FnR (gi gp) 11 (.ref 541) [.bool on, .name a, .name o, .bool pf] (.ok (.int (refI (hrR on a o pf)))) := by
  refine FnR.introTM (n := 10) (names := ["onward", "name", "origin", "prefix"]) (loc := []) (xs := []) (dx := []) (by rfl) (by kernel_rfl) (fun vs s hv _ => bind4 (fun v u t z => by rfl) vs s hv) (fun _ _ => by simp only [RepL]) (by decide +kernel) rfl (by decide +kernel) (by decide +kernel) ?_
  intro f₀ ok hst hfr
  refine ExR.try (O₁ := fun o' => (∃ d, hrR on a o pf = .ok d ∧ o' = .next [some (.sh (.bool on)), some (.sh (.name a)), some (.sh (.name o)), some (.sh (.bool pf))]) ∨ ∃ c ρ, hrR on a o pf = .exc c ∧ o' = .exc c ρ) ok hst hfr ?_ ?_ ?_ ?_
  · refine ExR.ite ok (Te.up (Te.val (Ev.name ok 0 rfl rfl))) (fun h => ?_) (fun h => ?_)
    · subst h
      exact ExR.expr ok (EvR.meth ok succM (m := 10) (by decide) (Ev.up (Ev.name ok 1 rfl rfl)) (Evs.up (Evs.cons ok (Ev.name ok 2 rfl rfl) (Evs.cons ok (Ev.name ok 3 rfl rfl) Evs.nil rfl) rfl)) (fn_msucc ha ho)) (fun d h => ExR.nil (.inl ⟨d, h, rfl⟩)) (fun c h => .inr ⟨c, _, h, rfl⟩)
    · subst h
      exact ExR.expr ok (EvR.meth ok predM (m := 10) (by decide) (Ev.up (Ev.name ok 1 rfl rfl)) (Evs.up (Evs.cons ok (Ev.name ok 2 rfl rfl) (Evs.cons ok (Ev.name ok 3 rfl rfl) Evs.nil rfl) rfl)) (fn_mpred ha ho)) (fun d h => ExR.nil (.inl ⟨d, h, rfl⟩)) (fun c h => .inr ⟨c, _, h, rfl⟩)
  · rintro ρ' (⟨d, h, e⟩ | ⟨_, _, _, e⟩)
    · injection e with e; subst e
      rw [h]
      exact Ex.up (Ex.retV ok Ev.cint)
    · cases e
  · rintro o' (⟨d, _, rfl⟩ | ⟨c, ρ, _, rfl⟩) h1 h2
    · exact (h1 _ rfl).elim
    · exact (h2 _ _ rfl).elim
  · rintro c ρ' (⟨_, _, e⟩ | ⟨c', ρ'', h, e⟩)
    · cases e
    injection e with e1 e2; subst e1 e2
    rw [h]
    rcases hrR_exc h with rfl | rfl | rfl
    · exact ⟨1, .hit (.inl excNeedA.ex) rfl rfl excNeedA.hc, retO⟩
    · exact ⟨2, .skip (.inl excNeedA.ex) rfl rfl (by kernel_rfl) (.hit (.inl excNeedS.ex) rfl rfl excNeedS.hc), retO⟩
    · exact ⟨3, .skip (.inl excNeedA.ex) rfl rfl (by kernel_rfl) (.skip (.inl excNeedS.ex) rfl rfl (by kernel_rfl) (.hit (.inl excTooLong.ex) rfl rfl excTooLong.hc)), retO⟩
end
def poolI : List Int := [0, 1, 64, 91, 96, 97, 122, 123, 254, 255, 45, 53, 65, 90]
def poolAt (x : Int) : Int := poolI.getD (x.fmod 14).toNat 0
def endsI (n x : Int) : Int := ([0, 1, n.fdiv 2, n] : List Int).getD ((x.fdiv 196).fmod 4).toNat 0
def runI (n x : Int) : List Int := if decide (n - endsI n x > 0) = true then List.replicate (n - endsI n x - 1).toNat (poolAt x) ++ [poolAt (x.fdiv 14)] ++ List.replicate (endsI n x).toNat 255 else List.replicate (endsI n x).toNat 255
theorem poolAt_ok (x : Int) : 0 ≤ poolAt x ∧ poolAt x < 256 ∧ (poolI.map V.int)[vidx (poolI.map V.int).length (x.fmod 14)]? = some (.int (poolAt x)) := by
  have h2 := Int.fmod_nonneg_of_pos x (b := 14) (by decide)
  have h3 := Int.fmod_lt_of_pos x (b := 14) (by decide)
  have key : ∀ j : Nat, j < 14 → 0 ≤ poolI.getD j 0 ∧ poolI.getD j 0 < 256 ∧ poolI[j]? = some (poolI.getD j 0) := by decide
  obtain ⟨k1, k2, k3⟩ := key (x.fmod 14).toNat (by omega)
  refine ⟨k1, k2, ?_⟩
  unfold vidx; rw [if_neg (by omega), List.getElem?_map, k3]; rfl
theorem lt4 {j : Int} (h2 : 0 ≤ j) (h3 : j < 4) : j = 0 ∨ j = 1 ∨ j = 2 ∨ j = 3 := by omega
theorem endsI_ok {n : Int} (x : Int) (hn : 0 ≤ n) : 0 ≤ endsI n x ∧ (1 ≤ n → endsI n x ≤ n) ∧ ([V.int 0, .int 1, .int (n.fdiv 2), .int n])[vidx 4 ((x.fdiv 196).fmod 4)]? = some (.int (endsI n x)) := by
  have h2 := Int.fmod_nonneg_of_pos (x.fdiv 196) (b := 4) (by decide)
  have h3 := Int.fmod_lt_of_pos (x.fdiv 196) (b := 4) (by decide)
  have hd : n.fdiv 2 = n / 2 := by rw [Int.fdiv_eq_ediv_of_nonneg _ (by decide)]
  unfold endsI
  unfold vidx; rw [if_neg (by omega)]
  generalize (x.fdiv 196).fmod 4 = j at h2 h3
  have := lt4 h2 h3
  rw [hd]
  rcases this with rfl | rfl | rfl | rfl
  · exact ⟨Int.le_refl 0, fun _ => hn, rfl⟩
  · exact ⟨(by decide : (0:Int) ≤ 1), fun h => h, rfl⟩
  · refine ⟨?_, fun _ => ?_, rfl⟩ <;> (show _ ≤ _; simp; omega)
  · exact ⟨hn, fun _ => Int.le_refl _, rfl⟩
theorem runI_mem {n x k : Int} (h : k ∈ runI n x) : 0 ≤ k ∧ k < 256 := by
  unfold runI at h
  split at h
  · rcases List.mem_append.mp h with h | h
    · rcases List.mem_append.mp h with h | h
      · rw [(List.mem_replicate.mp h).2]; exact ⟨(poolAt_ok x).1, (poolAt_ok x).2.1⟩
      · have : k = poolAt (x.fdiv 14) := by simpa using h
        subst this; exact ⟨(poolAt_ok _).1, (poolAt_ok _).2.1⟩
    · rw [(List.mem_replicate.mp h).2]; decide
  · rw [(List.mem_replicate.mp h).2]; decide
theorem runI_len {n x : Int} (hn : 1 ≤ n) : ((runI n x).length : Int) = n := by
  obtain ⟨h1, h2, _⟩ := endsI_ok (n := n) x (by omega)
  have h2 := h2 hn
  unfold runI
  split
  · rename_i h
    have : n - endsI n x > 0 := by simpa using h
    simp; omega
  · rename_i h
    have : ¬ n - endsI n x > 0 := by simpa using h
    simp; omega
section
variable {gp : GP}
theorem pool_rep : ∃ v, nsIn (gi gp).K mainGlobals "_LAW_POOL" = some (some v) ∧ KRep (gi gp).K (.tup (poolI.map .int)) v := by
  refine ⟨_, by rfl, ?_⟩
  simp only [poolI, List.map_cons, List.map_nil, KRep, KRepL]
  repeat' (first | rfl | (refine ⟨_, ?_⟩) | (refine ⟨?_, ?_⟩) | (simp [sizeLine]; done))
theorem Ev.pool {f : Fm} {n : Nat} {ρ : En} {e : Expr} {np pos : Pos} {x : Int} (ok : FmOk (gi gp) f n) (hx : f.env.kindOf "_LAW_POOL" = some .globalImplicit) (he : Ev (gi gp) f ρ e (.ok (.int (x.fmod 14))))
    (hs : ∀ o i, subscripted e false o i = operate [o, i] (getItem o i) := by intro _ _; rfl) : Ev (gi gp) f ρ (.Subscript (.Name "_LAW_POOL" np) e pos) (.ok (.int (poolAt x))) := by
  obtain ⟨v, e1, e2⟩ := pool_rep (gp := gp)
  have h2 := Int.fmod_nonneg_of_pos x (b := 14) (by decide)
  exact Ev.sub ok (Ev.glob ok hx (GV.glob e1 (by rfl)) e2) he (.inr (.inl rfl)) (Op2.itemTup (poolAt_ok x).2.2 (by simp; omega)) hs
end
theorem repl_map (k : Nat) (c : Int) : (List.replicate k [V.int c]).flatten = (List.replicate k c).map V.int := by
  induction k with
  | zero => rfl
  | succ k ih => rw [List.replicate_succ, List.flatten_cons, ih]; rfl
section
variable {gp : GP}
theorem fn_run {n x : Int} (h1 : 1 ≤ n) (h2 : n ≤ 300) : Fn (gi gp) 1 (.ref 509) [.int n, .int x] (.ok (.bytes (bytesOf (runI n x)))) := by
  refine Fn.introM (n := 0) (names := ["n", "x"]) (loc := ["ends", "rest", "octets"]) (xs := []) (dx := []) (by rfl) (by kernel_rfl) (fun vs s hv _ => bind2 (fun v u => by rfl) vs s hv) (fun _ _ => by simp only [RepL]) (by decide +kernel) rfl (by decide +kernel) (by decide +kernel) ?_
  intro f₀ ok
  obtain ⟨e0, e1, e2⟩ := endsI_ok (n := n) x (by omega)
  have e1 := e1 h1
  have m0 := Int.fmod_nonneg_of_pos (x.fdiv 196) (b := 4) (by decide)
  refine Ex.assign ok 2 rfl (Ev.sub ok (Ev.tupD ok (Evs.cons ok Ev.cint (Evs.cons ok Ev.cint (Evs.cons ok (Ev.bin ok (Ev.name ok 0 rfl rfl) Ev.cint (Op2.fdiv (by decide) (by decide +kernel))) (Evs.cons ok (Ev.name ok 0 rfl rfl) Evs.nil rfl) rfl) rfl) rfl) (by simp)) (Ev.bin ok (Ev.bin ok (Ev.name ok 1 rfl rfl) Ev.cint (Op2.fdiv (by decide) (by decide +kernel))) Ev.cint (Op2.mod (by decide))) (.inr (.inl rfl)) (Op2.itemTup e2 (by simp; omega))) ?_
  refine Ex.assign ok 3 rfl (Ev.bin ok (Ev.name ok 0 rfl rfl) (Ev.name ok 2 rfl rfl) Op2.sub) ?_
  refine Ex.assign (d := .list ((List.replicate (endsI n x).toNat 255).map .int)) ok 4 rfl (repl_map _ _ ▸ Ev.bin ok (Ev.listD ok (Evs.cons ok Ev.cint Evs.nil rfl) (by simp)) (Ev.name ok 2 rfl rfl) (Op2.mulL (by omega) (by omega) (by simp; omega))) ?_
  refine Ex.ifJ ok [some (.sh (.int n)), some (.sh (.int x)), some (.sh (.int (endsI n x))), some (.sh (.int (n - endsI n x))), some (.sh (.list ((runI n x).map .int)))] (Te.cmp ok (Ev.name ok 3 rfl rfl) Ev.cint Op2.gt) (fun h => ?_) (fun h => ?_) ?_
  · unfold runI; rw [if_pos h]
    have e : V.list ((List.replicate (n - endsI n x - 1).toNat (poolAt x) ++ [poolAt (x.fdiv 14)] ++ List.replicate (endsI n x).toNat 255).map .int) = .list (((List.replicate (n - endsI n x - 1).toNat [V.int (poolAt x)]).flatten ++ [V.int (poolAt (x.fdiv 14))]) ++ (List.replicate (endsI n x).toNat 255).map .int) := by rw [repl_map]; simp
    rw [e]
    have hl : ((List.replicate (n - endsI n x - 1).toNat [V.int (poolAt x)]).flatten).length ≤ 300 := by rw [repl_map]; simp; omega
    refine Ex.assign ok 4 rfl (Ev.bin ok (Ev.bin ok (Ev.bin ok (Ev.listD ok (Evs.cons ok (Ev.pool ok rfl (Ev.bin ok (Ev.name ok 1 rfl rfl) Ev.cint (Op2.mod (by decide)))) Evs.nil rfl) (by simp)) (Ev.bin ok (Ev.name ok 3 rfl rfl) Ev.cint Op2.sub) (Op2.mulL (by omega) (by omega) (by simp; omega))) (Ev.listD ok (Evs.cons ok (Ev.pool ok rfl (Ev.bin ok (Ev.bin ok (Ev.name ok 1 rfl rfl) Ev.cint (Op2.fdiv (by decide) (by decide +kernel))) Ev.cint (Op2.mod (by decide)))) Evs.nil rfl) (by simp)) (Op2.addL (small_line (by simp only [List.length_singleton]; omega)))) (Ev.name ok 4 rfl rfl) (Op2.addL (small_line (by simp only [List.length_append, List.length_singleton, List.length_map, List.length_replicate]; omega)))) (Ex.nil rfl)
  · unfold runI; rw [if_neg (by rw [h]; decide)]
    exact Ex.nil rfl
  exact Ex.retV ok (Ev.callB ok rfl gv_bytes kept_type (Evs.cons ok (Ev.name ok 4 rfl rfl) Evs.nil rfl) (Bi.bytesL fun k hk => runI_mem hk))
end
def octI (y : Int) (n : Nat) : List Int := (List.range n).map fun h => (y.fdiv (256 ^ h)).fmod 256
structure NSt where
  ls : Lbl
  u : Int
  x : Int
def fill3 : Nat → NSt → NSt
  | 0, t => t
  | k + 1, t => if (decide (t.x.fmod 64 = 0) || decide (t.u + t.x.fmod 64 + 1 > 255)) = true then ⟨t.ls, t.u, t.x.fdiv 64⟩
    else fill3 k ⟨bytesOf (octI (t.x.fdiv 64) (t.x.fmod 64).toNat) :: t.ls, t.u + (t.x.fmod 64 + 1), (t.x.fdiv 64).fdiv (256 ^ (t.x.fmod 64).toNat)⟩
def itX : Nat → Int → Int
  | 0, x => x
  | k + 1, x => (itX k x).fdiv 14
def octP (n : Nat) (x : Int) : List Int := (List.range n).map fun i => poolAt (itX i x)
def itN {τ : Type} (f : τ → τ) : Nat → τ → τ
  | 0, t => t
  | k + 1, t => f (itN f k t)
def step0 (t : NSt) : NSt := if decide (t.u + (t.x.fmod 2 + 1) + 1 ≤ 255) = true then ⟨bytesOf (octP (t.x.fmod 2 + 1).toNat (t.x.fdiv 2)) :: t.ls, t.u + (t.x.fmod 2 + 1 + 1), itX (t.x.fmod 2 + 1).toNat (t.x.fdiv 2)⟩ else ⟨t.ls, t.u, itX (t.x.fmod 2 + 1).toNat (t.x.fdiv 2)⟩
def runS (n : Int) (t : NSt) : NSt := if decide (n > 0) = true then ⟨bytesOf (runI n t.x) :: t.ls, t.u + (n + 1), t.x.fdiv 784⟩ else t
def step1 (aim : Int) (p : NSt × Int) : NSt × Int := (runS p.2 p.1, if decide (aim - (runS p.2 p.1).u - min 63 (aim - (runS p.2 p.1).u - 1) - 1 = 1) = true then min 63 (aim - (runS p.2 p.1).u - 1) - 1 else min 63 (aim - (runS p.2 p.1).u - 1))
def four (x : Int) : Int := ([1, 2, 62, 63] : List Int).getD (x.fmod 4).toNat 0
def step2 (t : NSt) : NSt := runS (min (four t.x) (254 - t.u)) ⟨t.ls, t.u, t.x.fdiv 4⟩
def nameL (v : Int) (tail : Lbl) (low : Int) : Lbl :=
  let x := v.fdiv 4
  let u := wire tail
  if v.fmod 4 = 0 then (itN step0 (x.fmod 4).toNat ⟨tail, u, x.fdiv 4⟩).ls
  else if v.fmod 4 = 1 then
    let aim := low + x.fmod (256 - low)
    let x1 := x.fdiv (256 - low)
    (itN (step1 aim) 6 (⟨tail, u, x1.fdiv 64⟩, min (x1.fmod 64) (aim - u - 1))).1.ls
  else if v.fmod 4 = 2 then (itN step2 (x.fmod 3 + 1).toNat ⟨tail, u, x.fdiv 3⟩).ls
  else (fill3 8 ⟨tail, u, x⟩).ls
def Grown (tail : Lbl) (t : NSt) : Prop := (∃ own, t.ls = own ++ tail ∧ ∀ b ∈ own, 1 ≤ b.length ∧ b.length ≤ 63) ∧ t.u = wire t.ls ∧ t.u ≤ 255
theorem Grown.add {tail : Lbl} {t : NSt} {b : List UInt8} {n x : Int} (h : Grown tail t) (hn : (b.length : Int) = n) (h1 : 1 ≤ n) (h2 : n ≤ 63) (h3 : t.u + n + 1 ≤ 255) : Grown tail ⟨b :: t.ls, t.u + (n + 1), x⟩ := by
  obtain ⟨⟨own, e, ho⟩, hu, hs⟩ := h
  refine ⟨⟨b :: own, by rw [e]; rfl, fun c hc => ?_⟩, ?_, by show t.u + (n + 1) ≤ 255; omega⟩
  · rcases List.mem_cons.mp hc with rfl | hc
    · omega
    · exact ho c hc
  · show t.u + (n + 1) = wire (b :: t.ls)
    rw [wire_cons, hu]; omega
theorem Grown.x {tail : Lbl} {t : NSt} (h : Grown tail t) (x : Int) : Grown tail ⟨t.ls, t.u, x⟩ := h
theorem octP_len (n : Nat) (x : Int) : (octP n x).length = n := by unfold octP; simp
theorem octI_len (x : Int) (n : Nat) : (octI x n).length = n := by unfold octI; simp
theorem octP_mem {n : Nat} {x k : Int} (h : k ∈ octP n x) : 0 ≤ k ∧ k < 256 := by
  unfold octP at h
  obtain ⟨i, _, rfl⟩ := List.mem_map.mp h
  exact ⟨(poolAt_ok _).1, (poolAt_ok _).2.1⟩
theorem octI_mem {y : Int} {n : Nat} {k : Int} (h : k ∈ octI y n) : 0 ≤ k ∧ k < 256 := by
  unfold octI at h
  obtain ⟨i, _, rfl⟩ := List.mem_map.mp h
  exact ⟨Int.fmod_nonneg_of_pos _ (by decide), Int.fmod_lt_of_pos _ (by decide)⟩
theorem step0_grown {tail : Lbl} {t : NSt} (h : Grown tail t) : Grown tail (step0 t) := by
  have m0 := Int.fmod_nonneg_of_pos t.x (b := 2) (by decide)
  have m1 := Int.fmod_lt_of_pos t.x (b := 2) (by decide)
  unfold step0
  split
  · rename_i hc
    have hc : t.u + (t.x.fmod 2 + 1) + 1 ≤ 255 := by simpa using hc
    exact h.add (by rw [bytesOf_len, octP_len]; omega) (by omega) (by omega) hc
  · exact h.x _
theorem runS_grown {tail : Lbl} {t : NSt} {n : Int} (h : Grown tail t) (h2 : n ≤ 63) (h3 : t.u + n + 1 ≤ 255) : Grown tail (runS n t) := by
  unfold runS
  split
  · rename_i hc
    have hc : n > 0 := by simpa using hc
    exact h.add (by rw [bytesOf_len, runI_len (by omega)]) (by omega) h2 h3
  · exact h
theorem four_ok (x : Int) : 1 ≤ four x ∧ four x ≤ 63 ∧ ([V.int 1, .int 2, .int 62, .int 63])[vidx 4 (x.fmod 4)]? = some (.int (four x)) := by
  have h2 := Int.fmod_nonneg_of_pos x (b := 4) (by decide)
  have h3 := Int.fmod_lt_of_pos x (b := 4) (by decide)
  unfold four
  unfold vidx; rw [if_neg (by omega)]
  generalize x.fmod 4 = j at h2 h3
  have := lt4 h2 h3
  rcases this with rfl | rfl | rfl | rfl <;> exact ⟨by decide, by decide, rfl⟩
theorem step2_grown {tail : Lbl} {t : NSt} (h : Grown tail t) : Grown tail (step2 t) := by
  have := four_ok t.x
  exact runS_grown (h.x _) (by omega) (by show t.u + min (four t.x) (254 - t.u) + 1 ≤ 255; omega)
theorem step1_grown {tail : Lbl} {aim : Int} {p : NSt × Int} (ha : aim ≤ 255) (h : Grown tail p.1 ∧ p.2 ≤ 63 ∧ p.2 ≤ aim - p.1.u - 1) : Grown tail (step1 aim p).1 ∧ (step1 aim p).2 ≤ 63 ∧ (step1 aim p).2 ≤ aim - (step1 aim p).1.u - 1 := by
  obtain ⟨h1, h2, h3⟩ := h
  have hr := runS_grown h1 h2 (by omega)
  refine ⟨hr, ?_, ?_⟩ <;> (unfold step1; dsimp only; split <;> omega)
theorem itN_keep {τ : Type} {f : τ → τ} {P : τ → Prop} (hf : ∀ t, P t → P (f t)) : ∀ (k : Nat) {t : τ}, P t → P (itN f k t)
  | 0, _, h => h
  | k + 1, _, h => hf _ (itN_keep hf k h)
theorem fill3_grown {tail : Lbl} : ∀ (k : Nat) {t : NSt}, Grown tail t → Grown tail (fill3 k t)
  | 0, _, h => h
  | k + 1, t, h => by
    have m0 := Int.fmod_nonneg_of_pos t.x (b := 64) (by decide)
    have m1 := Int.fmod_lt_of_pos t.x (b := 64) (by decide)
    unfold fill3
    split
    · exact h.x _
    · rename_i hc
      have hc : ¬ t.x.fmod 64 = 0 ∧ ¬ t.u + t.x.fmod 64 + 1 > 255 := by simpa using hc
      exact fill3_grown k (h.add (by rw [bytesOf_len, octI_len]; omega) (by omega) (by omega) (by omega))
theorem nameL_grown {v low : Int} {tail : Lbl} (hw : wire tail ≤ 255) (hl : 0 ≤ low) (hl2 : low < 256) : (∃ own, nameL v tail low = own ++ tail ∧ ∀ b ∈ own, 1 ≤ b.length ∧ b.length ≤ 63) ∧ wire (nameL v tail low) ≤ 255 := by
  have fin : ∀ {t : NSt}, Grown tail t → (∃ own, t.ls = own ++ tail ∧ ∀ b ∈ own, 1 ≤ b.length ∧ b.length ≤ 63) ∧ wire t.ls ≤ 255 := fun h => ⟨h.1, by rw [← h.2.1]; exact h.2.2⟩
  have st : ∀ x, Grown tail ⟨tail, wire tail, x⟩ := fun x => ⟨⟨[], rfl, fun _ h => nomatch h⟩, rfl, hw⟩
  unfold nameL
  dsimp only
  split
  · exact fin (itN_keep (f := step0) (P := Grown tail) (fun t => step0_grown) _ (st _))
  · split
    · have m1 := Int.fmod_lt_of_pos (v.fdiv 4) (b := 256 - low) (by omega)
      have m2 := Int.fmod_lt_of_pos ((v.fdiv 4).fdiv (256 - low)) (b := 64) (by decide)
      exact fin (itN_keep (P := fun p : NSt × Int => Grown tail p.1 ∧ p.2 ≤ 63 ∧ p.2 ≤ low + (v.fdiv 4).fmod (256 - low) - p.1.u - 1) (fun t => step1_grown (by omega)) 6 ⟨st _, by dsimp only; omega, by dsimp only; omega⟩).1
    · split
      · exact fin (itN_keep (f := step2) (P := Grown tail) (fun t => step2_grown) _ (st _))
      · exact fin (fill3_grown 8 (st _))
theorem pow_log (h : Nat) (hh : h < 64) : ((256 : Int) ^ h).natAbs.log2 < 9000 := by
  have : ∀ h : Nat, h < 64 → ((256 : Int) ^ h).natAbs.log2 < 9000 := by decide +kernel
  exact this h hh
theorem pow_ne (h : Nat) : ((256 : Int) ^ h) ≠ 0 := Int.pow_ne_zero (by decide)
theorem octP_succ (n : Nat) (x : Int) : (octP (n + 1) x).map V.int = (octP n x).map V.int ++ [V.int (poolAt (itX n x))] := by
  unfold octP; rw [List.range_succ]; simp
section
variable {gp : GP}
theorem gv_run : GV (gi gp) "_law_run" (.ref 509) := GV.glob (by kernel_rfl) (by rfl)
theorem fn_lname {v low : Int} {tail : Lbl} (hz : tail.length ≤ 300) (hw : 0 ≤ wire tail) (hl0 : 0 ≤ low) (hl1 : low < 256) :
    FnA (gi gp) 3 (.ref 514) [.sh (.int v), .sh (.list (tail.map .bytes)), .sh (.int low)] (.ok (.list ((nameL v tail low).map .bytes))) := by
  refine FnA.introCM (n := 2) (names := ["v", "tail", "low"]) (loc := ["labels", "used", "kind", "k", "j", "n", "octets", "h", "aim", "turn"]) (y := "x") (by rfl) (by kernel_rfl) (fun vs hv => ?bind) (by decide +kernel) rfl (by decide +kernel) (by decide +kernel) (by decide +kernel) (fun k => ⟨_, by rfl⟩) ?_
  case bind =>
    obtain ⟨a, b, c, rfl⟩ := eq3 hv
    rfl
  intro f₀ ok hc
  have mem : ("x" : Str) ∈ [("x" : Str)] := .head _
  refine Ex.assign (d := .list (tail.map .bytes ++ [])) ok 3 rfl (Ev.bin ok (Ev.name ok 1 rfl rfl) (Ev.listD (ds := []) ok Evs.nil (by simp)) (Op2.addL (by simp only [List.length_map, List.length_nil]; exact small_line (by omega)))) ?_
  rw [List.append_nil]
  refine Ex.assign ok 4 rfl (Ev.call ok rfl gv_wire (.inr (by kernel_rfl)) (by decide) (Evs.cons ok (Ev.name ok 3 rfl rfl) Evs.nil rfl) fn_wire) ?_
  refine Ex.assign ok 5 rfl (Ev.bin ok (Ev.name ok 0 rfl rfl) Ev.cint (Op2.mod (by decide))) ?_
  refine Ex.assignC ok 13 rfl mem rfl (Ev.bin ok (Ev.name ok 0 rfl rfl) Ev.cint (Op2.fdiv (by decide) (by decide +kernel))) ?_
  let Rf : En := [none, none, none, some (.sh (.list ((nameL v tail low).map .bytes))), none, none, none, none, none, none, none, none, none, none]
  refine Ex.seq (O₁ := fun o => ∃ ρ', o = .next ρ' ∧ Weak ρ' Rf) ?loops ?rest (fun o h hn => let ⟨ρ', e', _⟩ := h; (hn _ e').elim)
  case rest =>
    rintro ρ' ⟨_, h, wk⟩; injection h with h; subst h
    exact Ex.weak wk (Ex.retV ok (Ev.name ok 3 rfl rfl))
  case loops =>
  let RR : NSt → Option B → Option B → Option B → En := fun t k n aim => [some (.sh (.int v)), some (.sh (.list (tail.map .bytes))), some (.sh (.int low)), some (.sh (.list (t.ls.map .bytes))), some (.sh (.int t.u)), some (.sh (.int (v.fmod 4))), k, none, n, none, none, aim, none, some (.ce (some (.int t.x)))]
  have fin : ∀ (ρ' : En) (t : NSt), t.ls = nameL v tail low → ρ'.length = 14 → ρ'[3]? = some (some (.sh (.list (t.ls.map .bytes)))) → Weak ρ' Rf := by
    intro ρ' t e hl h3
    refine ⟨by simp [Rf, hl], fun i b hb => ?_⟩
    have : i = 3 ∧ b = .sh (.list ((nameL v tail low).map .bytes)) := by
      rcases i with _ | _ | _ | _ | _ | _ | _ | _ | _ | _ | _ | _ | _ | _ | i <;> simp [Rf] at hb ⊢
      exact hb.symm
    obtain ⟨rfl, rfl⟩ := this
    rw [h3, e]
  generalize hX : v.fdiv 4 = x
  refine Ex.ite ok (Te.cmp ok (Ev.name ok 5 rfl rfl) Ev.cint Op2.eq) (fun hk => ?_) (fun hk => ?_)
  · have e : nameL v tail low = (itN step0 (x.fmod 4).toNat ⟨tail, wire tail, x.fdiv 4⟩).ls := by unfold nameL; rw [hX]; dsimp only; rw [if_pos (by simpa using hk)]
    have h4 : 0 ≤ x.fmod 4 := Int.fmod_nonneg_of_pos _ (by decide)
    have h4' : x.fmod 4 < 4 := Int.fmod_lt_of_pos _ (by decide)
    refine Ex.assign ok 6 rfl (Ev.bin ok (Ev.cell ok 13 rfl mem rfl) Ev.cint (Op2.mod (by decide))) ?_
    refine Ex.augC ok 13 rfl mem rfl Ev.cint (Op2.ifdiv (by decide) (by decide +kernel)) ?_
    refine Ex.for (τ := NSt) ok 7 rfl (ItSrc.range1 ok rfl gv_range (Ev.name ok 6 rfl rfl) (by omega) (by omega)) (fun t => RR t (some (.sh (.int (x.fmod 4)))) none none) (fun k t => t = itN step0 k ⟨tail, wire tail, x.fdiv 4⟩ ∧ t.ls.length ≤ tail.length + k) ⟨tail, wire tail, x.fdiv 4⟩ (.keep (.keep (.keep (.keep (.keep (.keep (.keep (.keep (.keep (.keep (.keep (.keep (.keep (.keep .nil)))))))))))))) ⟨rfl, by simp⟩ ?turn ?done
    case done =>
      intro t hJ
      refine ⟨_, rfl, fin _ t ?_ rfl rfl⟩
      rw [e, hJ.1]; simp [vrange]
    case turn =>
      intro k t d hd hJ
      obtain ⟨hJ, hln⟩ := hJ
      have hk4 : k < 4 := by have := (List.getElem?_eq_some_iff.mp hd).1; simp [vrange] at this; omega
      have h2 : 0 ≤ t.x.fmod 2 := Int.fmod_nonneg_of_pos _ (by decide)
      have h2' : t.x.fmod 2 < 2 := Int.fmod_lt_of_pos _ (by decide)
      refine Ex.assign ok 8 rfl (Ev.bin ok (Ev.bin ok (Ev.cell ok 13 rfl mem rfl) Ev.cint (Op2.mod (by decide))) Ev.cint Op2.add) ?_
      refine Ex.augC ok 13 rfl mem rfl Ev.cint (Op2.ifdiv (by decide) (by decide +kernel)) ?_
      refine Ex.assignO ok 9 rfl (EvO.listD (ds := []) ok Evs.nil (by simp)) rfl ?_
      let R1 : Nat → En := fun i => [some (.sh (.int v)), some (.sh (.list (tail.map .bytes))), some (.sh (.int low)), some (.sh (.list (t.ls.map .bytes))), some (.sh (.int t.u)), some (.sh (.int (v.fmod 4))), some (.sh (.int (x.fmod 4))), some (.sh d), some (.sh (.int (t.x.fmod 2 + 1))), some (.li ((octP i (t.x.fdiv 2)).map .int)), none, none, none, some (.ce (some (.int (itX i (t.x.fdiv 2)))))]
      refine Ex.seq (O₁ := fun o => o = .next (R1 (t.x.fmod 2 + 1).toNat)) (Ex.for (τ := Nat) ok 10 rfl (ItSrc.range1 ok rfl gv_range (Ev.name ok 8 rfl rfl) (by omega) (by omega)) R1 (fun k i => i = k) 0 (.keep (.keep (.keep (.keep (.keep (.keep (.keep (.keep (.keep (.keep (.keep (.keep (.keep (.keep .nil)))))))))))))) rfl ?turn2 ?done2) ?rest2 (fun o h hn => (hn _ h).elim)
      case turn2 =>
        intro k2 i d2 hd2 hi
        subst hi
        have hi2 : i < 2 := by have := (List.getElem?_eq_some_iff.mp hd2).1; simp [vrange] at this; omega
        refine Ex.append ok 9 rfl rfl (Ev.pool ok rfl (Ev.bin ok (Ev.cell ok 13 rfl mem rfl) Ev.cint (Op2.mod (by decide)))) (by rw [List.length_map, octP_len]; exact small_line (by omega)) ?_
        refine Ex.augC ok 13 rfl mem rfl Ev.cint (Op2.ifdiv (by decide) (by decide +kernel)) (Ex.nil ⟨i + 1, rfl, ?_⟩)
        simp only [R1, octP_succ]
        exact .keep (.keep (.keep (.keep (.keep (.keep (.keep (.keep (.keep (.keep (.drop (.keep (.keep (.keep .nil)))))))))))))
      case done2 =>
        intro i hi; subst hi
        simp only [vrange, List.length_map, List.length_range]
      case rest2 =>
        intro ρ' h; injection h with h; subst h
        refine Ex.freeze (i := 9) (ds := (octP (t.x.fmod 2 + 1).toNat (t.x.fdiv 2)).map .int) ok rfl ?_
        refine Ex.ite ok (c := decide (t.u + (t.x.fmod 2 + 1) + 1 ≤ 255)) (Te.cmp ok (Ev.bin ok (Ev.bin ok (Ev.name ok 4 rfl rfl) (Ev.name ok 8 rfl rfl) Op2.add) Ev.cint Op2.add) Ev.cint Op2.le) (fun hc => ?_) (fun hc => ?_)
        · have es : step0 t = ⟨bytesOf (octP (t.x.fmod 2 + 1).toNat (t.x.fdiv 2)) :: t.ls, t.u + (t.x.fmod 2 + 1 + 1), itX (t.x.fmod 2 + 1).toNat (t.x.fdiv 2)⟩ := by unfold step0; rw [if_pos hc]
          refine Ex.assign ok 3 rfl (Ev.bin ok (Ev.listD (ds := [.bytes (bytesOf (octP (t.x.fmod 2 + 1).toNat (t.x.fdiv 2)))]) ok (Evs.cons ok (Ev.callB ok rfl gv_bytes kept_type (Evs.cons ok (Ev.name ok 9 rfl rfl) Evs.nil rfl) (Bi.bytesL fun i hi => octP_mem hi)) Evs.nil rfl) (by simp)) (Ev.name ok 3 rfl rfl) (Op2.addL ?_)) ?_
          · simp only [List.length_cons, List.length_nil, List.length_map]; exact small_line (by omega)
          refine Ex.aug ok 4 rfl rfl (Ev.bin ok (Ev.name ok 8 rfl rfl) Ev.cint Op2.add) Op2.iadd (Ex.nil ⟨step0 t, ⟨?_, ?_⟩, ?_⟩)
          · rw [hJ]; rfl
          · rw [es]; exact Nat.succ_le_succ hln
          · simp only [RR, es]
            exact .keep (.keep (.keep (.keep (.keep (.keep (.keep (.drop (.drop (.drop (.keep (.keep (.keep (.keep .nil)))))))))))))
        · have es : step0 t = ⟨t.ls, t.u, itX (t.x.fmod 2 + 1).toNat (t.x.fdiv 2)⟩ := by unfold step0; rw [if_neg (by rw [hc]; decide)]
          refine Ex.nil ⟨step0 t, ⟨?_, ?_⟩, ?_⟩
          · rw [hJ]; rfl
          · rw [es]; exact Nat.le_succ_of_le hln
          · simp only [RR, es]
            exact .keep (.keep (.keep (.keep (.keep (.keep (.keep (.drop (.drop (.drop (.keep (.keep (.keep (.keep .nil)))))))))))))
  refine Ex.ite ok (Te.cmp ok (Ev.name ok 5 rfl rfl) Ev.cint Op2.eq) (fun hk1 => ?_) (fun hk1 => ?_)
  · have e : nameL v tail low = (itN (step1 (low + x.fmod (256 - low))) 6 (⟨tail, wire tail, (x.fdiv (256 - low)).fdiv 64⟩, min ((x.fdiv (256 - low)).fmod 64) (low + x.fmod (256 - low) - wire tail - 1))).1.ls := by unfold nameL; rw [hX]; dsimp only; rw [if_neg (by simpa using hk), if_pos (by simpa using hk1)]
    have hne : (256 - low) ≠ 0 := by omega
    have hlg : (256 - low).natAbs.log2 < 9000 := by
      have : ∀ j : Nat, j ≤ 256 → (j : Int).natAbs.log2 < 9000 := by decide +kernel
      have h1 := this (256 - low).natAbs (by omega)
      simpa using h1
    have h64' : (x.fdiv (256 - low)).fmod 64 < 64 := Int.fmod_lt_of_pos _ (by decide)
    refine Ex.assign ok 11 rfl (Ev.bin ok (Ev.name ok 2 rfl rfl) (Ev.bin ok (Ev.cell ok 13 rfl mem rfl) (Ev.bin ok Ev.cint (Ev.name ok 2 rfl rfl) Op2.sub) (Op2.mod hne)) Op2.add) ?_
    refine Ex.augC ok 13 rfl mem rfl (Ev.bin ok Ev.cint (Ev.name ok 2 rfl rfl) Op2.sub) (Op2.ifdiv hne hlg) ?_
    refine Ex.assign ok 8 rfl (Ev.callB ok rfl gv_min kept_builtin (Evs.cons ok (Ev.bin ok (Ev.cell ok 13 rfl mem rfl) Ev.cint (Op2.mod (by decide))) (Evs.cons ok (Ev.bin ok (Ev.bin ok (Ev.name ok 11 rfl rfl) (Ev.name ok 4 rfl rfl) Op2.sub) Ev.cint Op2.sub) Evs.nil rfl) rfl) Bi.min2) ?_
    refine Ex.augC ok 13 rfl mem rfl Ev.cint (Op2.ifdiv (by decide) (by decide +kernel)) ?_
    generalize haim : low + x.fmod (256 - low) = aim at e
    refine Ex.for (τ := NSt × Int) ok 12 rfl (ItSrc.range1 ok rfl gv_range Ev.cint (by decide) (by decide)) (fun q => RR q.1 none (some (.sh (.int q.2))) (some (.sh (.int aim)))) (fun k q => q = itN (step1 aim) k (⟨tail, wire tail, (x.fdiv (256 - low)).fdiv 64⟩, min ((x.fdiv (256 - low)).fmod 64) (aim - wire tail - 1)) ∧ q.2 ≤ 63 ∧ q.1.ls.length ≤ tail.length + k) (⟨tail, wire tail, (x.fdiv (256 - low)).fdiv 64⟩, min ((x.fdiv (256 - low)).fmod 64) (aim - wire tail - 1)) (.keep (.keep (.keep (.keep (.keep (.keep (.keep (.keep (.keep (.keep (.keep (.keep (.keep (.keep .nil)))))))))))))) ⟨rfl, Int.le_trans (Int.min_le_left _ _) (Int.le_of_lt_add_one h64'), by simp⟩ ?turn1 ?done1
    case done1 =>
      intro q hJ
      refine ⟨_, rfl, fin _ q.1 ?_ rfl rfl⟩
      rw [e, hJ.1]; simp [vrange]
    case turn1 =>
      rintro k ⟨t, n⟩ d hd ⟨hJ, hn, hln⟩
      dsimp only at hn hln
      have hk6 : k < 6 := by have := (List.getElem?_eq_some_iff.mp hd).1; simpa [vrange] using this
      let R1 : NSt → Int → En := fun t n => [some (.sh (.int v)), some (.sh (.list (tail.map .bytes))), some (.sh (.int low)), some (.sh (.list (t.ls.map .bytes))), some (.sh (.int t.u)), some (.sh (.int (v.fmod 4))), none, none, some (.sh (.int n)), none, none, some (.sh (.int aim)), some (.sh d), some (.ce (some (.int t.x)))]
      have hls : (runS n t).ls.length ≤ tail.length + (k + 1) := by
        unfold runS; split
        · exact Nat.succ_le_succ hln
        · exact Nat.le_succ_of_le hln
      refine Ex.ifJ ok (R1 (runS n t) n) (Te.cmp ok (Ev.name ok 8 rfl rfl) Ev.cint Op2.gt) (fun hc => ?_) (fun hc => ?_) ?_
      · have h1 : 1 ≤ n := by have : 0 < n := by simpa using hc
                              omega
        have es : runS n t = ⟨bytesOf (runI n t.x) :: t.ls, t.u + (n + 1), t.x.fdiv 784⟩ := by unfold runS; rw [if_pos hc]
        refine Ex.assign ok 3 rfl (Ev.bin ok (Ev.listD (ds := [.bytes (bytesOf (runI n t.x))]) ok (Evs.cons ok (Ev.call ok rfl gv_run (.inr (by kernel_rfl)) (by decide) (Evs.cons ok (Ev.name ok 8 rfl rfl) (Evs.cons ok (Ev.cell ok 13 rfl mem rfl) Evs.nil rfl) rfl) (fn_run h1 (by omega))) Evs.nil rfl) (by simp)) (Ev.name ok 3 rfl rfl) (Op2.addL ?_)) ?_
        · simp only [List.length_cons, List.length_nil, List.length_map]; exact small_line (by omega)
        refine Ex.aug ok 4 rfl rfl (Ev.bin ok (Ev.name ok 8 rfl rfl) Ev.cint Op2.add) Op2.iadd ?_
        refine Ex.augC ok 13 rfl mem rfl Ev.cint (Op2.ifdiv (by decide) (by decide +kernel)) (Ex.nil ?_)
        simp only [R1, es]; rfl
      · have es : runS n t = t := by unfold runS; rw [if_neg (by rw [hc]; decide)]
        rw [es]; exact Ex.nil rfl
      generalize hts : runS n t = t' at hls
      refine Ex.assign ok 8 rfl (Ev.callB ok rfl gv_min kept_builtin (Evs.cons ok Ev.cint (Evs.cons ok (Ev.bin ok (Ev.bin ok (Ev.name ok 11 rfl rfl) (Ev.name ok 4 rfl rfl) Op2.sub) Ev.cint Op2.sub) Evs.nil rfl) rfl) Bi.min2) ?_
      have est : step1 aim (t, n) = (t', if decide (aim - t'.u - min 63 (aim - t'.u - 1) - 1 = 1) = true then min 63 (aim - t'.u - 1) - 1 else min 63 (aim - t'.u - 1)) := by unfold step1; dsimp only; rw [hts]
      refine Ex.ite ok (Te.cmp ok (Ev.bin ok (Ev.bin ok (Ev.bin ok (Ev.name ok 11 rfl rfl) (Ev.name ok 4 rfl rfl) Op2.sub) (Ev.name ok 8 rfl rfl) Op2.sub) Ev.cint Op2.sub) Ev.cint Op2.eq) (fun hc => ?_) (fun hc => ?_)
      · rw [if_pos hc] at est
        refine Ex.aug ok 8 rfl rfl Ev.cint Op2.isub (Ex.nil ⟨step1 aim (t, n), ⟨?_, ?_, ?_⟩, ?_⟩)
        · rw [hJ]; rfl
        · rw [est]; exact Int.le_trans (Int.sub_le_self _ (by decide)) (Int.min_le_left _ _)
        · rw [est]; exact hls
        · simp only [RR, est]
          exact .keep (.keep (.keep (.keep (.keep (.keep (.keep (.keep (.keep (.keep (.keep (.keep (.drop (.keep .nil)))))))))))))
      · rw [if_neg (by rw [hc]; decide)] at est
        refine Ex.nil ⟨step1 aim (t, n), ⟨?_, ?_, ?_⟩, ?_⟩
        · rw [hJ]; rfl
        · rw [est]; exact Int.min_le_left _ _
        · rw [est]; exact hls
        · simp only [RR, est]
          exact .keep (.keep (.keep (.keep (.keep (.keep (.keep (.keep (.keep (.keep (.keep (.keep (.drop (.keep .nil)))))))))))))
  refine Ex.ite ok (Te.cmp ok (Ev.name ok 5 rfl rfl) Ev.cint Op2.eq) (fun hk2 => ?_) (fun hk2 => ?_)
  · have e : nameL v tail low = (itN step2 (x.fmod 3 + 1).toNat ⟨tail, wire tail, x.fdiv 3⟩).ls := by unfold nameL; rw [hX]; dsimp only; rw [if_neg (by simpa using hk), if_neg (by simpa using hk1), if_pos (by simpa using hk2)]
    have h3 : 0 ≤ x.fmod 3 := Int.fmod_nonneg_of_pos _ (by decide)
    have h3' : x.fmod 3 < 3 := Int.fmod_lt_of_pos _ (by decide)
    refine Ex.assign ok 6 rfl (Ev.bin ok (Ev.bin ok (Ev.cell ok 13 rfl mem rfl) Ev.cint (Op2.mod (by decide))) Ev.cint Op2.add) ?_
    refine Ex.augC ok 13 rfl mem rfl Ev.cint (Op2.ifdiv (by decide) (by decide +kernel)) ?_
    refine Ex.for (τ := NSt) ok 7 rfl (ItSrc.range1 ok rfl gv_range (Ev.name ok 6 rfl rfl) (by omega) (by omega)) (fun t => RR t (some (.sh (.int (x.fmod 3 + 1)))) none none) (fun k t => t = itN step2 k ⟨tail, wire tail, x.fdiv 3⟩ ∧ t.ls.length ≤ tail.length + k) ⟨tail, wire tail, x.fdiv 3⟩ (.keep (.keep (.keep (.keep (.keep (.keep (.keep (.keep (.keep (.keep (.keep (.keep (.keep (.keep .nil)))))))))))))) ⟨rfl, by simp⟩ ?turn2 ?done2
    case done2 =>
      intro t hJ
      refine ⟨_, rfl, fin _ t ?_ rfl rfl⟩
      rw [e, hJ.1]; simp [vrange]
    case turn2 =>
      intro k t d hd hJ
      obtain ⟨hJ, hln⟩ := hJ
      have hk4 : k < 4 := by have := (List.getElem?_eq_some_iff.mp hd).1; simp [vrange] at this; omega
      obtain ⟨f1, f2, f3⟩ := four_ok t.x
      have hm := Int.fmod_nonneg_of_pos t.x (b := 4) (by decide)
      refine Ex.assign ok 8 rfl (Ev.callB ok rfl gv_min kept_builtin (Evs.cons ok (Ev.sub ok (Ev.tupD ok (Evs.cons ok Ev.cint (Evs.cons ok Ev.cint (Evs.cons ok Ev.cint (Evs.cons ok Ev.cint Evs.nil rfl) rfl) rfl) rfl) (by simp)) (Ev.bin ok (Ev.cell ok 13 rfl mem rfl) Ev.cint (Op2.mod (by decide))) (.inr (.inl rfl)) (Op2.itemTup f3 (by simp; omega))) (Evs.cons ok (Ev.bin ok Ev.cint (Ev.name ok 4 rfl rfl) Op2.sub) Evs.nil rfl) rfl) Bi.min2) ?_
      refine Ex.augC ok 13 rfl mem rfl Ev.cint (Op2.ifdiv (by decide) (by decide +kernel)) ?_
      have hn63 : min (four t.x) (254 - t.u) ≤ 63 := Int.le_trans (Int.min_le_left _ _) f2
      have est : step2 t = runS (min (four t.x) (254 - t.u)) ⟨t.ls, t.u, t.x.fdiv 4⟩ := rfl
      generalize hnn : min (four t.x) (254 - t.u) = n at hn63 est
      refine Ex.ite ok (Te.cmp ok (Ev.name ok 8 rfl rfl) Ev.cint Op2.gt) (fun hc => ?_) (fun hc => ?_)
      · have h1 : 1 ≤ n := by have : 0 < n := by simpa using hc
                              omega
        have es : step2 t = ⟨bytesOf (runI n (t.x.fdiv 4)) :: t.ls, t.u + (n + 1), (t.x.fdiv 4).fdiv 784⟩ := by rw [est]; unfold runS; rw [if_pos hc]
        refine Ex.assign ok 3 rfl (Ev.bin ok (Ev.listD (ds := [.bytes (bytesOf (runI n (t.x.fdiv 4)))]) ok (Evs.cons ok (Ev.call ok rfl gv_run (.inr (by kernel_rfl)) (by decide) (Evs.cons ok (Ev.name ok 8 rfl rfl) (Evs.cons ok (Ev.cell ok 13 rfl mem rfl) Evs.nil rfl) rfl) (fn_run h1 (by omega))) Evs.nil rfl) (by simp)) (Ev.name ok 3 rfl rfl) (Op2.addL ?_)) ?_
        · simp only [List.length_cons, List.length_nil, List.length_map]; exact small_line (by omega)
        refine Ex.aug ok 4 rfl rfl (Ev.bin ok (Ev.name ok 8 rfl rfl) Ev.cint Op2.add) Op2.iadd ?_
        refine Ex.augC ok 13 rfl mem rfl Ev.cint (Op2.ifdiv (by decide) (by decide +kernel)) (Ex.nil ⟨step2 t, ⟨?_, ?_⟩, ?_⟩)
        · rw [hJ]; rfl
        · rw [es]; exact Nat.succ_le_succ hln
        · simp only [RR, es]
          exact .keep (.keep (.keep (.keep (.keep (.keep (.keep (.drop (.drop (.keep (.keep (.keep (.keep (.keep .nil)))))))))))))
      · have es : step2 t = ⟨t.ls, t.u, t.x.fdiv 4⟩ := by rw [est]; unfold runS; rw [if_neg (by rw [hc]; decide)]
        refine Ex.nil ⟨step2 t, ⟨?_, ?_⟩, ?_⟩
        · rw [hJ]; rfl
        · rw [es]; exact Nat.le_succ_of_le hln
        · simp only [RR, es]
          exact .keep (.keep (.keep (.keep (.keep (.keep (.keep (.drop (.drop (.keep (.keep (.keep (.keep (.keep .nil)))))))))))))
  have e : nameL v tail low = (fill3 8 ⟨tail, wire tail, x⟩).ls := by unfold nameL; rw [hX]; dsimp only; rw [if_neg (by simpa using hk), if_neg (by simpa using hk1), if_neg (by simpa using hk2)]
  refine Ex.for (τ := NSt) ok 12 rfl (ItSrc.range1 ok rfl gv_range Ev.cint (by decide) (by decide)) (fun t => RR t none none none) (fun k t => fill3 (8 - k) t = fill3 8 ⟨tail, wire tail, x⟩ ∧ t.ls.length ≤ tail.length + k) ⟨tail, wire tail, x⟩ (.keep (.keep (.keep (.keep (.keep (.keep (.keep (.keep (.keep (.keep (.keep (.keep (.keep (.keep .nil)))))))))))))) ⟨rfl, by simp⟩ ?turn3 ?done3
  case done3 =>
    intro t hJ
    have h6 : fill3 0 t = fill3 8 ⟨tail, wire tail, x⟩ := hJ.1
    refine ⟨_, rfl, fin _ t ?_ rfl rfl⟩
    rw [e, ← h6]; rfl
  case turn3 =>
    intro k t d hd hJ
    obtain ⟨hJ, hln⟩ := hJ
    have hk6 : k < 8 := by have := (List.getElem?_eq_some_iff.mp hd).1; simpa [vrange] using this
    have h64 : 0 ≤ t.x.fmod 64 := Int.fmod_nonneg_of_pos _ (by decide)
    have h64' : t.x.fmod 64 < 64 := Int.fmod_lt_of_pos _ (by decide)
    obtain ⟨j, hj⟩ : ∃ j, 8 - k = j + 1 := ⟨7 - k, Nat.succ_sub (Nat.le_of_lt_succ hk6)⟩
    have hj' : 8 - (k + 1) = j := congrArg Nat.pred hj
    rw [hj] at hJ
    refine Ex.assign ok 8 rfl (Ev.bin ok (Ev.cell ok 13 rfl mem rfl) Ev.cint (Op2.mod (by decide))) ?_
    refine Ex.augC ok 13 rfl mem rfl Ev.cint (Op2.ifdiv (by decide) (by decide +kernel)) ?_
    refine Ex.ifR ok (c := decide (t.x.fmod 64 = 0) || decide (t.u + t.x.fmod 64 + 1 > 255)) (Te.bool (TAll.or_cons ok (Te.cmp ok (Ev.name ok 8 rfl rfl) Ev.cint Op2.eq) fun _ => TAll.or1 ok (Te.cmp ok (Ev.bin ok (Ev.bin ok (Ev.name ok 4 rfl rfl) (Ev.name ok 8 rfl rfl) Op2.add) Ev.cint Op2.add) Ev.cint Op2.gt))) (fun hb => ?_) (fun hb => ?_)
    · refine Ex.brk ⟨⟨_, rfl, fin _ t ?_ rfl rfl⟩, fun _ h => nomatch h⟩
      rw [e, ← hJ]; unfold fill3; rw [if_pos hb]
    · have hn63 : (t.x.fmod 64).toNat < 64 := by omega
      have hnn : (((t.x.fmod 64).toNat : Nat) : Int) = t.x.fmod 64 := Int.toNat_of_nonneg h64
      refine Ex.assign ok 3 rfl (Ev.bin ok (Ev.listD (ds := [.bytes (bytesOf (octI (t.x.fdiv 64) (t.x.fmod 64).toNat))]) ok (Evs.cons ok (Ev.callB ok rfl gv_bytes kept_type (Evs.cons ok (Ev.comp (es := (octI (t.x.fdiv 64) (t.x.fmod 64).toNat).map .int) ok (CompOk.cellM (y := "x") (d₀ := .int (t.x.fdiv 64)) ok 13 rfl mem rfl ⟨by decide +kernel, by rfl, by decide +kernel, by rfl, by decide +kernel, by decide +kernel, fun y hy => by cases hy with | head => rfl | tail _ h => cases h⟩ (fun c hc => ?clo) (ItSrc.range1 ok rfl gv_range (Ev.name ok 8 rfl rfl) (by omega) (by omega)) (by unfold vrange; rw [List.length_map, List.length_range]; exact small_line (Nat.le_trans (Nat.le_of_lt hn63) (by decide))) (by simp [vrange, octI]) ?elt hc)) Evs.nil rfl) (Bi.bytesL fun i hi => octI_mem hi)) Evs.nil rfl) (by simp)) (Ev.name ok 3 rfl rfl) (Op2.addL ?_)) ?_
      case clo =>
        simp [closureFor, cellOf, hc]
      case elt =>
        intro i d e' hd he
        simp only [vrange, List.getElem?_map, Option.map_eq_some_iff] at hd
        obtain ⟨i', hi, rfl⟩ := hd
        simp only [octI, List.getElem?_map, Option.map_eq_some_iff] at he
        obtain ⟨e1, ⟨i2, hi2, rfl⟩, rfl⟩ := he
        rw [hi] at hi2; injection hi2 with hi2; subst hi2
        have hir : i' < 64 := by
          have := (List.getElem?_eq_some_iff.mp hi); obtain ⟨q1, q2⟩ := this; simp at q1 q2; omega
        have hz : (0 : Int) + (i' : Int) = (i' : Int) := by omega
        rw [hz]
        intro f₀ ok''
        refine Ev.bin ok'' (Ev.bin ok'' (Ev.cellB ok'' 1 rfl mem rfl) (Ev.bin ok'' Ev.cint (Ev.name ok'' 0 rfl rfl) (Op2.pow (by omega) ?_)) (Op2.fdiv (pow_ne _) (pow_log _ hir))) Ev.cint (Op2.mod (by decide))
        have : (Builtin.Int.intBits 256 : Int) ≤ 64 := by decide +kernel
        calc (Builtin.Int.intBits 256 : Int) * (i' : Int) ≤ 64 * (i' : Int) := Int.mul_le_mul_of_nonneg_right this (by omega)
          _ ≤ 2 ^ 27 := by omega
      · simp only [List.length_cons, List.length_nil, List.length_map]; exact small_line (by omega)
      refine Ex.aug ok 4 rfl rfl (Ev.bin ok (Ev.name ok 8 rfl rfl) Ev.cint Op2.add) Op2.iadd ?_
      refine Ex.augC ok 13 rfl mem rfl (Ev.bin ok Ev.cint (Ev.name ok 8 rfl rfl) (Op2.pow h64 ?_)) (Op2.ifdiv (pow_ne _) (pow_log _ hn63)) (Ex.nil ⟨⟨bytesOf (octI (t.x.fdiv 64) (t.x.fmod 64).toNat) :: t.ls, t.u + (t.x.fmod 64 + 1), (t.x.fdiv 64).fdiv (256 ^ (t.x.fmod 64).toNat)⟩, ⟨?_, ?_⟩, ?_⟩)
      · have : (Builtin.Int.intBits 256 : Int) ≤ 64 := by decide +kernel
        calc (Builtin.Int.intBits 256 : Int) * (t.x.fmod 64) ≤ 64 * (t.x.fmod 64) := Int.mul_le_mul_of_nonneg_right this h64
          _ ≤ 2 ^ 27 := by omega
      · rw [hj', ← hJ]
        conv => rhs; unfold fill3
        rw [if_neg (by simp only [hb]; decide)]
      · exact Nat.succ_le_succ hln
      · exact .keep (.keep (.keep (.keep (.keep (.keep (.keep (.keep (.drop (.keep (.keep (.keep (.drop (.keep .nil)))))))))))))
end
def bints (b : List UInt8) : List Int := b.map fun c => (c.toNat : Int)
theorem ints_map (b : List UInt8) : vbytes b = (bints b).map .int := by unfold vbytes bints; rw [List.map_map]; rfl
def lastI (os : List Int) : Int := os.getD (os.length - 1) 0
def octK (kind x : Int) (os : List Int) : List Int :=
  if decide (kind = 0) = true then os.set (os.length - 1) ((lastI os + 1).fmod 256)
  else if decide (kind = 1) = true then os.set (os.length - 1) ((lastI os + 255).fmod 256)
  else if decide (kind = 2) = true then os ++ [0]
  else if decide (kind = 3) = true then os ++ [255]
  else if decide (kind = 4) = true then slc os none (some (-1))
  else if decide (kind = 5) = true then os.set (os.length - 1) (x.fmod 256)
  else []
def ownK (os : List Int) (own : Lbl) : Lbl := if decide ((0 : Int) < ((os.map V.int).length : Int)) = true then [bytesOf os] ++ own else own
def hdL (b : Lbl) : List UInt8 := b.headD []
def ownT (kind x : Int) (own : Lbl) : Lbl :=
  if decide (kind = 7) = true then [bytesOf [0]] ++ own
  else if decide (kind = 8) = true then [bytesOf [255]] ++ own
  else if decide (kind = 9) = true then own.map bup
  else if decide ((0 : Int) < ((own.map V.bytes).length : Int)) = true then ownK (octK kind x (bints (hdL own))) (slc own (some 1) none)
  else own
def ownS (b o : Lbl) : Lbl := slc b none (some ((b.length : Int) - o.length))
def turnL (v : Int) (names : List Lbl) (o : Lbl) : Lbl :=
  let base := names.getD (v.fmod 5).toNat []
  let x := v.fdiv 5
  let wanted := ownT (x.fmod 10) (x.fdiv 10) (ownS base o) ++ o
  if lawfulB wanted = true then wanted else base
theorem bints_mem {b : List UInt8} {k : Int} (h : k ∈ bints b) : 0 ≤ k ∧ k < 256 := by
  unfold bints at h
  obtain ⟨c, _, rfl⟩ := List.mem_map.mp h
  have := UInt8.toNat_lt c; omega
theorem octK_mem {kind x k : Int} {os : List Int} (hs : ∀ k ∈ os, 0 ≤ k ∧ k < 256) (h : k ∈ octK kind x os) : 0 ≤ k ∧ k < 256 := by
  have hst : ∀ {i : Nat} {y : Int}, k ∈ os.set i (y.fmod 256) → 0 ≤ k ∧ k < 256 := fun h => by
    rcases List.mem_or_eq_of_mem_set h with h | h
    · exact hs k h
    · subst h; exact ⟨Int.fmod_nonneg_of_pos _ (by decide), Int.fmod_lt_of_pos _ (by decide)⟩
  unfold octK at h
  split at h
  · exact hst h
  split at h
  · exact hst h
  split at h
  · rcases List.mem_append.mp h with h | h
    · exact hs k h
    · simp at h; subst h; decide
  split at h
  · rcases List.mem_append.mp h with h | h
    · exact hs k h
    · simp at h; subst h; decide
  split at h
  · exact hs k (List.mem_of_mem_drop (List.mem_of_mem_take h))
  split at h
  · exact hst h
  · cases h
theorem octK_len {kind x : Int} {os : List Int} : (octK kind x os).length ≤ os.length + 1 := by
  unfold octK
  have := slc_length_le os none (some (-1))
  repeat' (split; · simp; try omega)
  simp
theorem ownT_len {kind x : Int} {own : Lbl} : (ownT kind x own).length ≤ own.length + 1 := by
  unfold ownT ownK
  have := slc_length_le own (some 1) none
  repeat' split
  all_goals simp
  all_goals omega
section
variable {gp : GP}
theorem gv_capital : GV (gi gp) "_law_capital" (.ref 524) := GV.glob (by kernel_rfl) (by rfl)
theorem gv_lawful : GV (gi gp) "_law_lawful" (.ref 502) := GV.glob (by kernel_rfl) (by rfl)
theorem fn_turn {v : Int} {names : List Lbl} {o : Lbl} (h5 : names.length = 5) (hz : ∀ b ∈ names, b.length ≤ 300) (hoz : o.length ≤ 300) (hb : ∀ b ∈ names, ∀ l ∈ b, l.length ≤ 300) (hne : ∀ b ∈ names, ∀ l ∈ ownS b o, l ≠ []) :
    Fn (gi gp) 3 (.ref 534) [.int v, .list (names.map fun b => .list (b.map .bytes)), .list (o.map .bytes)] (.ok (.list ((turnL v names o).map .bytes))) := by
  refine Fn.introM (n := 2) (names := ["v", "names", "olabels"]) (loc := ["base", "x", "kind", "own", "octets", "wanted"]) (xs := []) (dx := []) (by rfl) (by kernel_rfl) (fun vs s hv _ => bind3 (fun v u t => by rfl) vs s hv) (fun _ _ => by simp only [RepL]) (by decide +kernel) rfl (by decide +kernel) (by decide +kernel) ?_
  intro f₀ ok
  have m0 := Int.fmod_nonneg_of_pos v (b := 5) (by decide)
  have m1 := Int.fmod_lt_of_pos v (b := 5) (by decide)
  have hi : (v.fmod 5).toNat < names.length := by omega
  obtain ⟨base, hba⟩ : ∃ base, names[(v.fmod 5).toNat]? = some base := ⟨_, List.getElem?_eq_getElem hi⟩
  have hbm := List.mem_of_getElem? hba
  have hbd : names.getD (v.fmod 5).toNat [] = base := by rw [List.getD_eq_getElem?_getD, hba]; rfl
  have hbz := hz _ hbm
  refine Ex.assign (d := .list (base.map .bytes)) ok 3 rfl (Ev.sub ok (Ev.name ok 1 rfl rfl) (Ev.bin ok (Ev.name ok 0 rfl rfl) Ev.cint (Op2.mod (by decide))) (.inl rfl) (Op2.itemList ?_ ?_)) ?_
  · unfold vidx; rw [if_neg (by omega), List.getElem?_map, hba]; rfl
  · omega
  refine Ex.assign ok 4 rfl (Ev.bin ok (Ev.name ok 0 rfl rfl) Ev.cint (Op2.fdiv (by decide) (by decide +kernel))) ?_
  refine Ex.assign ok 5 rfl (Ev.bin ok (Ev.name ok 4 rfl rfl) Ev.cint (Op2.mod (by decide))) ?_
  refine Ex.aug ok 4 rfl rfl Ev.cint (Op2.ifdiv (by decide) (by decide +kernel)) ?_
  have hsl : slc (base.map V.bytes) none (some (((base.map V.bytes).length : Int) - ((o.map V.bytes).length : Int))) = (ownS base o).map V.bytes := by
    rw [slc_map]; unfold ownS; rw [List.length_map, List.length_map]
  refine Ex.assign (d := .list ((ownS base o).map .bytes)) ok 6 rfl (hsl ▸ Ev.sliceList ok (Ev.name ok 3 rfl rfl) EvP.no (EvP.at (Ev.bin ok (Ev.callB ok rfl gv_len kept_builtin (Evs.cons ok (Ev.name ok 3 rfl rfl) Evs.nil rfl) Bi.lenList) (Ev.callB ok rfl gv_len kept_builtin (Evs.cons ok (Ev.name ok 2 rfl rfl) Evs.nil rfl) Bi.lenList) Op2.sub))) ?_
  have hoN := hne base hbm
  have hoz' : (ownS base o).length ≤ 300 := Nat.le_trans (slc_length_le _ _ _) hbz
  have hob : ∀ l ∈ ownS base o, l.length ≤ 300 := fun l hl => hb base hbm l (List.mem_of_mem_drop (List.mem_of_mem_take hl))
  have eT : turnL v names o = if lawfulB (ownT ((v.fdiv 5).fmod 10) ((v.fdiv 5).fdiv 10) (ownS base o) ++ o) = true then ownT ((v.fdiv 5).fmod 10) ((v.fdiv 5).fdiv 10) (ownS base o) ++ o else base := by unfold turnL; rw [hbd]
  rw [eT]
  generalize ownS base o = own at hoN hoz' hob
  generalize (v.fdiv 5).fmod 10 = kind
  generalize (v.fdiv 5).fdiv 10 = x
  let R : En := [some (.sh (.int v)), some (.sh (.list (names.map fun b => .list (b.map .bytes)))), some (.sh (.list (o.map .bytes))), some (.sh (.list (base.map .bytes))), some (.sh (.int x)), some (.sh (.int kind)), some (.sh (.list ((ownT kind x own).map .bytes))), none, none]
  refine Ex.seq (O₁ := fun o => ∃ ρ', o = .next ρ' ∧ Weak ρ' R) ?chain ?rest (fun o h hn => let ⟨ρ', e', _⟩ := h; (hn _ e').elim)
  case rest =>
    rintro ρ' ⟨_, h, wk⟩; injection h with h; subst h
    refine Ex.weak wk ?_
    have hol := ownT_len (kind := kind) (x := x) (own := own)
    have ea : (ownT kind x own ++ o).map V.bytes = (ownT kind x own).map V.bytes ++ o.map V.bytes := List.map_append ..
    refine Ex.assign (d := .list ((ownT kind x own ++ o).map .bytes)) ok 8 rfl (ea ▸ Ev.bin ok (Ev.name ok 6 rfl rfl) (Ev.name ok 2 rfl rfl) (Op2.addL (by simp only [List.length_map]; exact small_line (by omega)))) ?_
    refine Ex.ifR ok (Te.val (Ev.call ok rfl gv_lawful (.inr (by kernel_rfl)) (by decide) (Evs.cons ok (Ev.name ok 8 rfl rfl) Evs.nil rfl) fn_lawful)) (fun h => ?_) (fun h => ?_)
    · rw [if_pos h]; exact Ex.retN ok (Ev.name ok 8 rfl rfl) retO
    · rw [if_neg (by rw [h]; decide)]; exact Ex.retV ok (Ev.name ok 3 rfl rfl)
  case chain =>
  have add1 : ∀ (b : List UInt8) (l : Lbl), l.length ≤ 300 → ([V.bytes b].length + (l.map V.bytes).length) ≤ sizeLine := fun b l h => by simp only [List.length_cons, List.length_nil, List.length_map]; exact small_line (by omega)
  refine Ex.ite ok (Te.cmp ok (Ev.name ok 5 rfl rfl) Ev.cint Op2.eq) (fun h7 => ?_) (fun h7 => ?_)
  · have e : ownT kind x own = [bytesOf [0]] ++ own := by unfold ownT; rw [if_pos h7]
    refine Ex.assign ok 6 rfl (Ev.bin ok (Ev.listD (ds := [.bytes (bytesOf [0])]) ok (Evs.cons ok (Ev.callB ok rfl gv_bytes kept_type (Evs.cons ok (Ev.listD (ds := [.int 0]) ok (Evs.cons ok Ev.cint Evs.nil rfl) (by simp)) Evs.nil rfl) (Bi.bytesL (ns := [0]) (by decide))) Evs.nil rfl) (by simp)) (Ev.name ok 6 rfl rfl) (Op2.addL (add1 _ _ hoz'))) (Ex.nil ⟨_, rfl, ?_⟩)
    simp only [R, e]; exact .keep (.keep (.keep (.keep (.keep (.keep (.keep (.drop (.drop .nil))))))))
  refine Ex.ite ok (Te.cmp ok (Ev.name ok 5 rfl rfl) Ev.cint Op2.eq) (fun h8 => ?_) (fun h8 => ?_)
  · have e : ownT kind x own = [bytesOf [255]] ++ own := by unfold ownT; rw [if_neg (by rw [h7]; decide), if_pos h8]
    refine Ex.assign ok 6 rfl (Ev.bin ok (Ev.listD (ds := [.bytes (bytesOf [255])]) ok (Evs.cons ok (Ev.callB ok rfl gv_bytes kept_type (Evs.cons ok (Ev.listD (ds := [.int 255]) ok (Evs.cons ok Ev.cint Evs.nil rfl) (by simp)) Evs.nil rfl) (Bi.bytesL (ns := [255]) (by decide))) Evs.nil rfl) (by simp)) (Ev.name ok 6 rfl rfl) (Op2.addL (add1 _ _ hoz'))) (Ex.nil ⟨_, rfl, ?_⟩)
    simp only [R, e]; exact .keep (.keep (.keep (.keep (.keep (.keep (.keep (.drop (.drop .nil))))))))
  refine Ex.ite ok (Te.cmp ok (Ev.name ok 5 rfl rfl) Ev.cint Op2.eq) (fun h9 => ?_) (fun h9 => ?_)
  · have e : ownT kind x own = own.map bup := by unfold ownT; rw [if_neg (by rw [h7]; decide), if_neg (by rw [h8]; decide), if_pos h9]
    refine Ex.assign ok 6 rfl (Ev.call ok rfl gv_capital (.inr (by kernel_rfl)) (by decide) (Evs.cons ok (Ev.name ok 6 rfl rfl) Evs.nil rfl) (fn_capital (by omega) (fun b h => Nat.le_trans (hob b h) (by decide)))) (Ex.nil ⟨_, rfl, ?_⟩)
    simp only [R, e]; exact .keep (.keep (.keep (.keep (.keep (.keep (.keep (.drop (.drop .nil))))))))
  refine Ex.ite ok (Te.cmp ok (Ev.callB ok rfl gv_len kept_builtin (Evs.cons ok (Ev.name ok 6 rfl rfl) Evs.nil rfl) Bi.lenList) Ev.cint Op2.gt) (fun hl => ?_) (fun hl => ?_)
  · have e : ownT kind x own = ownK (octK kind x (bints (hdL own))) (slc own (some 1) none) := by unfold ownT; rw [if_neg (by rw [h7]; decide), if_neg (by rw [h8]; decide), if_neg (by rw [h9]; decide), if_pos hl]
    have hl0 : 0 < own.length := by simpa using hl
    obtain ⟨l, rest, rfl⟩ : ∃ l rest, own = l :: rest := by
      cases own with
      | nil => simp at hl0
      | cons l rest => exact ⟨l, rest, rfl⟩
    have hlne : l ≠ [] := hoN l (.head _)
    have hlpos : 0 < l.length := List.length_pos_iff.mpr hlne
    have hll : l.length ≤ 300 := hob l (.head _)
    have hhd : hdL (l :: rest) = l := rfl
    rw [hhd] at e
    have hsl : slc ((l :: rest).map V.bytes) (some 1) none = (slc (l :: rest) (some 1) none).map V.bytes := slc_map _ _ _ _
    have hsz : (slc (l :: rest) (some 1) none).length ≤ 300 := Nat.le_trans (slc_length_le _ _ _) hoz'
    refine Ex.assignCompO ok 7 rfl (es := (bints l).map .int) (CompOk.plainM ⟨by decide +kernel, by rfl, by decide +kernel, by rfl, by decide +kernel, by decide +kernel, fun y hy => nomatch hy⟩ (by decide +kernel) (ItSrc.bytes (b := l) ok (Ev.sub ok (Ev.name ok 6 rfl rfl) Ev.cint (.inl rfl) (Op2.itemList (by rfl) (by simp; omega)))) (by simp [vbytes]; exact small_line (by omega)) (by simp [vbytes, bints]) ?_) ?_ (by rfl)
    · intro k d e' hd he
      rw [← ints_map] at he
      rw [hd] at he; injection he with he; subst he
      intro f₀ ok''
      exact Ev.name ok'' 0 rfl rfl
    have hbl : (bints l).length = l.length := by simp [bints]
    have hvl : vidx ((bints l).map V.int).length (-1) = (bints l).length - 1 := by
      rw [List.length_map]; exact vidx_neg1 _
    have hlen1 : ((bints l).map V.int).length = l.length := by rw [List.length_map, hbl]
    have hat : ((bints l).map V.int)[vidx ((bints l).map V.int).length (-1)]? = some (.int (lastI (bints l))) := by
      rw [hvl, List.getElem?_map, List.getElem?_eq_getElem (by omega)]
      unfold lastI; rw [List.getD_eq_getElem?_getD, List.getElem?_eq_getElem (by omega)]; rfl
    have hset : ∀ y : Int, (((bints l).map V.int).set (vidx ((bints l).map V.int).length (-1)) (.int y)) = ((bints l).set ((bints l).length - 1) y).map .int := fun y => by
      rw [hvl, List.map_set]
    let R2 : En := [some (.sh (.int v)), some (.sh (.list (names.map fun b => .list (b.map .bytes)))), some (.sh (.list (o.map .bytes))), some (.sh (.list (base.map .bytes))), some (.sh (.int x)), some (.sh (.int kind)), some (.sh (.list ((l :: rest).map .bytes))), some (.sh (.list ((octK kind x (bints l)).map .int))), none]
    refine Ex.seq (O₁ := fun o => o = .next R2) ?octs ?rest2 (fun o h hn => (hn _ h).elim)
    case rest2 =>
      intro ρ' h; injection h with h; subst h
      have hol := octK_len (kind := kind) (x := x) (os := bints l)
      refine Ex.assign (d := .list ((slc (l :: rest) (some 1) none).map .bytes)) ok 6 rfl (hsl ▸ Ev.sliceList ok (Ev.name ok 6 rfl rfl) (EvP.at Ev.cint) EvP.no) ?_
      refine Ex.ite ok (Te.cmp ok (Ev.callB ok rfl gv_len kept_builtin (Evs.cons ok (Ev.name ok 7 rfl rfl) Evs.nil rfl) Bi.lenList) Ev.cint Op2.gt) (fun hc => ?_) (fun hc => ?_)
      · have e2 : ownT kind x (l :: rest) = [bytesOf (octK kind x (bints l))] ++ slc (l :: rest) (some 1) none := by rw [e]; unfold ownK; rw [if_pos hc]
        refine Ex.assign ok 6 rfl (Ev.bin ok (Ev.listD (ds := [.bytes (bytesOf (octK kind x (bints l)))]) ok (Evs.cons ok (Ev.callB ok rfl gv_bytes kept_type (Evs.cons ok (Ev.name ok 7 rfl rfl) Evs.nil rfl) (Bi.bytesL fun k hk => octK_mem (fun k hk => bints_mem hk) hk)) Evs.nil rfl) (by simp)) (Ev.name ok 6 rfl rfl) (Op2.addL (add1 _ _ hsz))) (Ex.nil ⟨_, rfl, ?_⟩)
        simp only [R, e2]; exact .keep (.keep (.keep (.keep (.keep (.keep (.keep (.drop (.drop .nil))))))))
      · have e2 : ownT kind x (l :: rest) = slc (l :: rest) (some 1) none := by rw [e]; unfold ownK; rw [if_neg (by rw [hc]; decide)]
        refine Ex.nil ⟨_, rfl, ?_⟩
        simp only [R, e2]; exact .keep (.keep (.keep (.keep (.keep (.keep (.keep (.drop (.drop .nil))))))))
    case octs =>
    refine Ex.ite ok (Te.cmp ok (Ev.name ok 5 rfl rfl) Ev.cint Op2.eq) (fun h0 => ?_) (fun h0 => ?_)
    · have eo : octK kind x (bints l) = (bints l).set ((bints l).length - 1) ((lastI (bints l) + 1).fmod 256) := by unfold octK; rw [if_pos h0]
      refine Ex.store ok 7 rfl rfl (Ev.bin ok (Ev.bin ok (Ev.subN ok (LName.li 7 rfl rfl) (Ev.neg Ev.cint) hat (by rw [hlen1]; omega)) Ev.cint Op2.add) Ev.cint (Op2.mod (by decide))) (Ev.neg Ev.cint) (by rw [hvl, hlen1]; omega) (by rw [hlen1]; omega) ?_
      refine Ex.freeze (i := 7) (ds := (octK kind x (bints l)).map .int) ok (by rw [eo, ← hset]; rfl) (Ex.nil rfl)
    refine Ex.ite ok (Te.cmp ok (Ev.name ok 5 rfl rfl) Ev.cint Op2.eq) (fun h1 => ?_) (fun h1 => ?_)
    · have eo : octK kind x (bints l) = (bints l).set ((bints l).length - 1) ((lastI (bints l) + 255).fmod 256) := by unfold octK; rw [if_neg (by rw [h0]; decide), if_pos h1]
      refine Ex.store ok 7 rfl rfl (Ev.bin ok (Ev.bin ok (Ev.subN ok (LName.li 7 rfl rfl) (Ev.neg Ev.cint) hat (by rw [hlen1]; omega)) Ev.cint Op2.add) Ev.cint (Op2.mod (by decide))) (Ev.neg Ev.cint) (by rw [hvl, hlen1]; omega) (by rw [hlen1]; omega) ?_
      refine Ex.freeze (i := 7) (ds := (octK kind x (bints l)).map .int) ok (by rw [eo, ← hset]; rfl) (Ex.nil rfl)
    refine Ex.ite ok (Te.cmp ok (Ev.name ok 5 rfl rfl) Ev.cint Op2.eq) (fun h2 => ?_) (fun h2 => ?_)
    · have eo : octK kind x (bints l) = bints l ++ [0] := by unfold octK; rw [if_neg (by rw [h0]; decide), if_neg (by rw [h1]; decide), if_pos h2]
      refine Ex.append ok 7 rfl rfl Ev.cint (by rw [hlen1]; exact small_line (by omega)) ?_
      refine Ex.freeze (i := 7) (ds := (octK kind x (bints l)).map .int) ok (by rw [eo, List.map_append]; rfl) (Ex.nil rfl)
    refine Ex.ite ok (Te.cmp ok (Ev.name ok 5 rfl rfl) Ev.cint Op2.eq) (fun h3 => ?_) (fun h3 => ?_)
    · have eo : octK kind x (bints l) = bints l ++ [255] := by unfold octK; rw [if_neg (by rw [h0]; decide), if_neg (by rw [h1]; decide), if_neg (by rw [h2]; decide), if_pos h3]
      refine Ex.append ok 7 rfl rfl Ev.cint (by rw [hlen1]; exact small_line (by omega)) ?_
      refine Ex.freeze (i := 7) (ds := (octK kind x (bints l)).map .int) ok (by rw [eo, List.map_append]; rfl) (Ex.nil rfl)
    refine Ex.ite ok (Te.cmp ok (Ev.name ok 5 rfl rfl) Ev.cint Op2.eq) (fun h4 => ?_) (fun h4 => ?_)
    · have eo : octK kind x (bints l) = slc (bints l) none (some (-1)) := by unfold octK; rw [if_neg (by rw [h0]; decide), if_neg (by rw [h1]; decide), if_neg (by rw [h2]; decide), if_neg (by rw [h3]; decide), if_pos h4]
      refine Ex.freeze (i := 7) (ds := (bints l).map .int) ok rfl ?_
      refine Ex.assign ok 7 rfl (Ev.sliceList ok (Ev.name ok 7 rfl rfl) EvP.no (EvP.at (Ev.neg Ev.cint))) (Ex.nil ?_)
      simp only [R2, eo, ← slc_map]; rfl
    refine Ex.ite ok (Te.cmp ok (Ev.name ok 5 rfl rfl) Ev.cint Op2.eq) (fun h5 => ?_) (fun h5 => ?_)
    · have eo : octK kind x (bints l) = (bints l).set ((bints l).length - 1) (x.fmod 256) := by unfold octK; rw [if_neg (by rw [h0]; decide), if_neg (by rw [h1]; decide), if_neg (by rw [h2]; decide), if_neg (by rw [h3]; decide), if_neg (by rw [h4]; decide), if_pos h5]
      refine Ex.store ok 7 rfl rfl (Ev.bin ok (Ev.name ok 4 rfl rfl) Ev.cint (Op2.mod (by decide))) (Ev.neg Ev.cint) (by rw [hvl, hlen1]; omega) (by rw [hlen1]; omega) ?_
      refine Ex.freeze (i := 7) (ds := (octK kind x (bints l)).map .int) ok (by rw [eo, ← hset]; rfl) (Ex.nil rfl)
    have eo : octK kind x (bints l) = [] := by unfold octK; rw [if_neg (by rw [h0]; decide), if_neg (by rw [h1]; decide), if_neg (by rw [h2]; decide), if_neg (by rw [h3]; decide), if_neg (by rw [h4]; decide), if_neg (by rw [h5]; decide)]
    refine Ex.freeze (i := 7) (ds := (bints l).map .int) ok rfl ?_
    refine Ex.assign ok 7 rfl (Ev.listD (ds := []) ok Evs.nil (by simp)) (Ex.nil ?_)
    simp only [R2, eo]; rfl
  · have e : ownT kind x own = own := by unfold ownT; rw [if_neg (by rw [h7]; decide), if_neg (by rw [h8]; decide), if_neg (by rw [h9]; decide), if_neg (by rw [hl]; decide)]
    refine Ex.nil ⟨_, rfl, ?_⟩
    simp only [R, e]; exact .keep (.keep (.keep (.keep (.keep (.keep (.keep (.drop (.drop .nil))))))))
end
def bumpI (l : List UInt8) : List Int := (bints l).set ((bints l).length - 1) ((lastI (bints l) + 1).fmod 256)
def bump (l : List UInt8) : List UInt8 := bytesOf (bumpI l)
theorem bumpI_mem {b : List UInt8} {k : Int} (h : k ∈ bumpI b) : 0 ≤ k ∧ k < 256 := by
  unfold bumpI at h
  rcases List.mem_or_eq_of_mem_set h with h | h
  · exact bints_mem h
  · subst h; exact ⟨Int.fmod_nonneg_of_pos _ (by decide), Int.fmod_lt_of_pos _ (by decide)⟩
structure CaseOk (c : Lbl × Lbl × Int) : Prop where
  g1 : Good c.1
  g2 : Good c.2.1
  r : ∀ on pf, refI (hrR on c.1 c.2.1 pf) = c.2.2
def caseV (c : Lbl × Lbl × Int) : V := .tup [.name c.1, .name c.2.1, .int c.2.2]
structure RefOk (al ol : Lbl) : Prop where
  c1 : CaseOk (al, ol.dropLast, 1)
  c2 : CaseOk (ownS al ol, ol.dropLast, 1)
  go : Good ol
  hne : 1 < ol.length → hdL ol ≠ []
  c3 : 1 < ol.length → CaseOk (ol.drop 1, ol, 2)
  c4 : 1 < ol.length → CaseOk (bump (hdL ol) :: ol.drop 1, ol, 2)
  c5 : 255 < wire (ownS al ol) + wire al → CaseOk (ownS al ol, al, 3)
def cases2 (al ol : Lbl) : List (Lbl × Lbl × Int) := if decide ((1 : Int) < ((ol.map V.bytes).length : Int)) = true then [(al, ol.dropLast, 1), (ownS al ol, ol.dropLast, 1), (ol.drop 1, ol, 2), (bump (hdL ol) :: ol.drop 1, ol, 2)] else [(al, ol.dropLast, 1), (ownS al ol, ol.dropLast, 1)]
def cases3 (al ol : Lbl) : List (Lbl × Lbl × Int) := if decide (255 < wire (ownS al ol) + wire al) = true then cases2 al ol ++ [(ownS al ol, al, 3)] else cases2 al ol
theorem cases2_ok {al ol : Lbl} (h : RefOk al ol) : (∀ c ∈ cases2 al ol, CaseOk c) ∧ (cases2 al ol).length ≤ 4 := by
  unfold cases2
  split
  · rename_i hc
    have hc : 1 < ol.length := by have : (1 : Int) < (ol.length : Int) := by simpa using hc
                                  omega
    refine ⟨fun c hm => ?_, by simp⟩
    simp at hm
    rcases hm with rfl | rfl | rfl | rfl
    · exact h.c1
    · exact h.c2
    · have := h.c3 hc; simpa using this
    · have := h.c4 hc; simpa using this
  · refine ⟨fun c hm => ?_, by simp⟩
    simp at hm
    rcases hm with rfl | rfl
    · exact h.c1
    · exact h.c2
theorem cases3_ok {al ol : Lbl} (h : RefOk al ol) : (∀ c ∈ cases3 al ol, CaseOk c) ∧ (cases3 al ol).length ≤ 5 := by
  obtain ⟨k1, k2⟩ := cases2_ok h
  unfold cases3
  split
  · rename_i hc
    have hc : 255 < wire (ownS al ol) + wire al := by simpa using hc
    refine ⟨fun c hm => ?_, by simp; omega⟩
    rcases List.mem_append.mp hm with hm | hm
    · exact k1 c hm
    · simp at hm; subst hm; exact h.c5 hc
  · exact ⟨k1, by omega⟩
theorem case_at {cs : List (Lbl × Lbl × Int)} {k : Nat} {d : V} (h : (cs.map caseV)[k]? = some d) : ∃ c ∈ cs, d = caseV c := by
  simp only [List.getElem?_map, Option.map_eq_some_iff] at h
  obtain ⟨b, e, rfl⟩ := h; exact ⟨b, List.mem_of_getElem? e, rfl⟩
theorem bool_at {k : Nat} {d : V} (h : ([V.bool true, .bool false])[k]? = some d) : ∃ b, d = .bool b := by
  match k with
  | 0 => exact ⟨true, by injection h with h; exact h.symm⟩
  | 1 => exact ⟨false, by injection h with h; exact h.symm⟩
  | k + 2 => cases h
section
variable {gp : GP}
theorem gv_refusal : GV (gi gp) "_law_refusal" (.ref 541) := GV.glob (by kernel_rfl) (by rfl)
theorem fn_refusals {al ol : Lbl} (h : RefOk al ol) : FnR (gi gp) 13 (.ref 546) [.list (al.map .bytes), .list (ol.map .bytes)] (.ok (.bool true)) := by
  have ga : Good al := h.c1.g1
  have gd : Good ol.dropLast := h.c1.g2
  have gw : Good (ownS al ol) := h.c2.g1
  have la := ga.len
  have lo' := h.go.len
  have ld := gd.len
  have lw := gw.len
  refine FnR.introM (n := 12) (names := ["alabels", "olabels"]) (loc := ["a", "own", "loose", "cases", "octets", "case", "onward", "prefix"]) (xs := []) (dx := []) (by rfl) (by kernel_rfl) (fun vs s hv _ => bind2 (fun v u => by rfl) vs s hv) (fun _ _ => by simp only [RepL]) (by decide +kernel) rfl (by decide +kernel) (by decide +kernel) ?_
  intro f₀ ok
  refine ExR.then (Ex.assign ok 2 rfl (Ev.call ok rfl gv_Name (.inr (by kernel_rfl)) (m := 5) (by decide) (Evs.cons ok (Ev.name ok 0 rfl rfl) Evs.nil rfl) (fn_Name ga.lawful (by omega))) (Ex.nil rfl)) ?_
  have hsl : slc (al.map V.bytes) none (some (((al.map V.bytes).length : Int) - ((ol.map V.bytes).length : Int))) = (ownS al ol).map V.bytes := by
    rw [slc_map]; unfold ownS; rw [List.length_map, List.length_map]
  refine ExR.then (Ex.assign (d := .list ((ownS al ol).map .bytes)) ok 3 rfl (hsl ▸ Ev.sliceList ok (Ev.name ok 0 rfl rfl) EvP.no (EvP.at (Ev.bin ok (Ev.callB ok rfl gv_len kept_builtin (Evs.cons ok (Ev.name ok 0 rfl rfl) Evs.nil rfl) Bi.lenList) (Ev.callB ok rfl gv_len kept_builtin (Evs.cons ok (Ev.name ok 1 rfl rfl) Evs.nil rfl) Bi.lenList) Op2.sub))) (Ex.nil rfl)) ?_
  refine ExR.then (Ex.assign ok 4 rfl (Ev.call ok rfl gv_Name (.inr (by kernel_rfl)) (m := 5) (by decide) (Evs.cons ok (Ev.name ok 3 rfl rfl) Evs.nil rfl) (fn_Name gw.lawful (by omega))) (Ex.nil rfl)) ?_
  have hdl : slc (ol.map V.bytes) none (some (-1)) = ol.dropLast.map V.bytes := by rw [slc_map, slc_init]
  let R : List (Lbl × Lbl × Int) → En := fun cs => [some (.sh (.list (al.map .bytes))), some (.sh (.list (ol.map .bytes))), some (.sh (.name al)), some (.sh (.list ((ownS al ol).map .bytes))), some (.sh (.name (ownS al ol))), some (.li (cs.map caseV)), none, none, none, none]
  refine ExR.then (ρ' := R [(al, ol.dropLast, 1), (ownS al ol, ol.dropLast, 1)]) (Ex.assignO ok 5 rfl (EvO.listD ok (Evs.cons ok (Ev.tupD (ds := [.name al, .name ol.dropLast, .int 1]) ok (Evs.cons ok (Ev.name ok 2 rfl rfl) (Evs.cons ok (Ev.call ok rfl gv_Name (.inr (by kernel_rfl)) (m := 5) (by decide) (Evs.cons ok (d := .list (ol.dropLast.map .bytes)) (hdl ▸ Ev.sliceList ok (Ev.name ok 1 rfl rfl) EvP.no (EvP.at (Ev.neg Ev.cint))) Evs.nil rfl) (fn_Name gd.lawful (by omega))) (Evs.cons ok Ev.cint Evs.nil rfl) rfl) rfl) (by simp))
    (Evs.cons ok (Ev.tupD (ds := [.name (ownS al ol), .name ol.dropLast, .int 1]) ok (Evs.cons ok (Ev.name ok 4 rfl rfl) (Evs.cons ok (Ev.call ok rfl gv_Name (.inr (by kernel_rfl)) (m := 5) (by decide) (Evs.cons ok (d := .list (ol.dropLast.map .bytes)) (hdl ▸ Ev.sliceList ok (Ev.name ok 1 rfl rfl) EvP.no (EvP.at (Ev.neg Ev.cint))) Evs.nil rfl) (fn_Name gd.lawful (by omega))) (Evs.cons ok Ev.cint Evs.nil rfl) rfl) rfl) (by simp)) Evs.nil rfl) rfl) (by simp)) rfl (Ex.nil rfl)) ?_
  refine ExR.seq (O₁ := fun o => ∃ ρ', o = .next ρ' ∧ Weak ρ' (R (cases2 al ol))) (Ex.up ?part2) ?rest2 (fun o h hn => let ⟨ρ', e', _⟩ := h; (hn _ e').elim)
  case part2 =>
    refine Ex.ite ok (Te.cmp ok (Ev.callB ok rfl gv_len kept_builtin (Evs.cons ok (Ev.name ok 1 rfl rfl) Evs.nil rfl) Bi.lenList) Ev.cint Op2.gt) (fun hc => ?_) (fun hc => ?_)
    · have e2 : cases2 al ol = [(al, ol.dropLast, 1), (ownS al ol, ol.dropLast, 1), (ol.drop 1, ol, 2), (bump (hdL ol) :: ol.drop 1, ol, 2)] := by unfold cases2; rw [if_pos hc]
      have hc1 : 1 < ol.length := by have : (1 : Int) < (ol.length : Int) := by simpa using hc
                                     omega
      have hne := h.hne hc1
      have c3 := h.c3 hc1
      have c4 := h.c4 hc1
      have l4 : (bump (hdL ol) :: ol.drop 1).length ≤ 255 := c4.g1.len
      have l3 : (ol.drop 1).length ≤ 255 := c3.g1.len
      obtain ⟨l, rest, rfl⟩ : ∃ l rest, ol = l :: rest := by
        cases ol with
        | nil => simp at hc1
        | cons l rest => exact ⟨l, rest, rfl⟩
      have hhd : hdL (l :: rest) = l := rfl
      have hdr : (l :: rest).drop 1 = rest := rfl
      rw [hhd] at hne c4 l4 e2
      rw [hdr] at c3 c4 l3 l4 e2
      have hlpos : 0 < l.length := List.length_pos_iff.mpr hne
      have hll : l.length ≤ 300 := by have := h.go.mem (b := l) (.head _); omega
      have hd1 : slc ((l :: rest).map V.bytes) (some 1) none = rest.map V.bytes := by
        rw [slc_map, show (some (1 : Int)) = some ((1 : Nat) : Int) from rfl, slc_hi _ _ (by simp)]; rfl
      refine Ex.assignCompO ok 6 rfl (es := (bints l).map .int) (CompOk.plainM ⟨by decide +kernel, by rfl, by decide +kernel, by rfl, by decide +kernel, by decide +kernel, fun y hy => nomatch hy⟩ (by decide +kernel) (ItSrc.bytes (b := l) ok (Ev.sub ok (Ev.name ok 1 rfl rfl) Ev.cint (.inl rfl) (Op2.itemList (by rfl) (by simp; omega)))) (by simp [vbytes]; exact small_line (by omega)) (by simp [vbytes, bints]) ?_) ?_ (by rfl)
      · intro k d e' hd he
        rw [← ints_map] at he
        rw [hd] at he; injection he with he; subst he
        intro f₀ ok''
        exact Ev.name ok'' 0 rfl rfl
      have hbl : (bints l).length = l.length := by simp [bints]
      have hvl : vidx ((bints l).map V.int).length (-1) = (bints l).length - 1 := by
        rw [List.length_map]; exact vidx_neg1 _
      have hlen1 : ((bints l).map V.int).length = l.length := by rw [List.length_map, hbl]
      have hat : ((bints l).map V.int)[vidx ((bints l).map V.int).length (-1)]? = some (.int (lastI (bints l))) := by
        rw [hvl, List.getElem?_map, List.getElem?_eq_getElem (by omega)]
        unfold lastI; rw [List.getD_eq_getElem?_getD, List.getElem?_eq_getElem (by omega)]; rfl
      refine Ex.store ok 6 rfl rfl (Ev.bin ok (Ev.bin ok (Ev.subN ok (LName.li 6 rfl rfl) (Ev.neg Ev.cint) hat (by rw [hlen1]; omega)) Ev.cint Op2.add) Ev.cint (Op2.mod (by decide))) (Ev.neg Ev.cint) (by rw [hvl, hlen1]; omega) (by rw [hlen1]; omega) ?_
      refine Ex.freeze (i := 6) (ds := (bumpI l).map .int) ok (by unfold bumpI; rw [List.map_set, ← hvl]; rfl) ?_
      refine Ex.append (d := .tup [.name rest, .name (l :: rest), .int 2]) ok 5 rfl rfl (Ev.tupD ok (Evs.cons ok (Ev.call ok rfl gv_Name (.inr (by kernel_rfl)) (m := 5) (by decide) (Evs.cons ok (d := .list (rest.map .bytes)) (hd1 ▸ Ev.sliceList ok (Ev.name ok 1 rfl rfl) (EvP.at Ev.cint) EvP.no) Evs.nil rfl) (fn_Name c3.g1.lawful (by omega))) (Evs.cons ok (Ev.call ok rfl gv_Name (.inr (by kernel_rfl)) (m := 5) (by decide) (Evs.cons ok (Ev.name ok 1 rfl rfl) Evs.nil rfl) (fn_Name h.go.lawful (by omega))) (Evs.cons ok Ev.cint Evs.nil rfl) rfl) rfl) (by simp)) (by simp; exact small_line (by decide)) ?_
      refine Ex.append (d := .tup [.name (bump l :: rest), .name (l :: rest), .int 2]) ok 5 rfl rfl (Ev.tupD ok (Evs.cons ok (Ev.call ok rfl gv_Name (.inr (by kernel_rfl)) (m := 5) (by decide) (Evs.cons ok (d := .list ((bump l :: rest).map .bytes)) (Ev.bin ok (Ev.listD (ds := [.bytes (bump l)]) ok (Evs.cons ok (Ev.callB ok rfl gv_bytes kept_type (Evs.cons ok (Ev.name ok 6 rfl rfl) Evs.nil rfl) (Bi.bytesL fun k hk => bumpI_mem hk)) Evs.nil rfl) (by simp)) (hd1 ▸ Ev.sliceList ok (Ev.name ok 1 rfl rfl) (EvP.at Ev.cint) EvP.no) (Op2.addL (by simp only [List.length_cons, List.length_nil, List.length_map]; exact small_line (by omega)))) Evs.nil rfl) (fn_Name c4.g1.lawful (by omega))) (Evs.cons ok (Ev.call ok rfl gv_Name (.inr (by kernel_rfl)) (m := 5) (by decide) (Evs.cons ok (Ev.name ok 1 rfl rfl) Evs.nil rfl) (fn_Name h.go.lawful (by omega))) (Evs.cons ok Ev.cint Evs.nil rfl) rfl) rfl) (by simp)) (by simp; exact small_line (by decide)) (Ex.nil ⟨_, rfl, ?_⟩)
      simp only [R, e2]; exact .keep (.keep (.keep (.keep (.keep (.keep (.drop (.keep (.keep (.keep .nil)))))))))
    · have e2 : cases2 al ol = [(al, ol.dropLast, 1), (ownS al ol, ol.dropLast, 1)] := by unfold cases2; rw [if_neg (by rw [hc]; decide)]
      rw [e2]; exact Ex.nil ⟨_, rfl, Weak.refl _⟩
  case rest2 =>
  rintro ρ' ⟨_, h', wk⟩; injection h' with h'; subst h'
  refine ExR.weak wk ?_
  obtain ⟨_, hl2⟩ := cases2_ok h
  obtain ⟨hok, _⟩ := cases3_ok h
  let R3 : En := [some (.sh (.list (al.map .bytes))), some (.sh (.list (ol.map .bytes))), some (.sh (.name al)), some (.sh (.list ((ownS al ol).map .bytes))), some (.sh (.name (ownS al ol))), some (.sh (.list ((cases3 al ol).map caseV))), none, none, none, none]
  refine ExR.then (ρ' := R3) (Ex.ite ok (Te.cmp ok (Ev.bin ok (Ev.call ok rfl gv_wire (.inr (by kernel_rfl)) (m := 1) (by decide) (Evs.cons ok (Ev.name ok 3 rfl rfl) Evs.nil rfl) fn_wire) (Ev.call ok rfl gv_wire (.inr (by kernel_rfl)) (m := 1) (by decide) (Evs.cons ok (Ev.name ok 0 rfl rfl) Evs.nil rfl) fn_wire) Op2.add) Ev.cint Op2.gt) (fun hc => ?_) (fun hc => ?_)) ?_
  · have e3 : cases3 al ol = cases2 al ol ++ [(ownS al ol, al, 3)] := by unfold cases3; rw [if_pos hc]
    refine Ex.append (d := .tup [.name (ownS al ol), .name al, .int 3]) ok 5 rfl rfl (Ev.tupD ok (Evs.cons ok (Ev.name ok 4 rfl rfl) (Evs.cons ok (Ev.name ok 2 rfl rfl) (Evs.cons ok Ev.cint Evs.nil rfl) rfl) rfl) (by simp)) (by rw [List.length_map]; exact small_line (by omega)) ?_
    refine Ex.freeze (i := 5) (ds := (cases3 al ol).map caseV) ok (by rw [e3, List.map_append]; rfl) (Ex.nil rfl)
  · have e3 : cases3 al ol = cases2 al ol := by unfold cases3; rw [if_neg (by rw [hc]; decide)]
    refine Ex.freeze (i := 5) (ds := (cases3 al ol).map caseV) ok (by rw [e3]; rfl) (Ex.nil rfl)
  refine ExR.seq (O₁ := fun o => o = .next R3) (ExR.for (τ := Unit) ok 7 rfl (ItSrc.list ok (Ev.name ok 5 rfl rfl)) (fun _ => R3) (fun _ _ => True) () (Weak.refl _) trivial ?turn1 (fun t _ => rfl)) ?rest3 (fun o h hn => (hn _ h).elim)
  case rest3 =>
    intro ρ' h; injection h with h; subst h
    exact Ex.up (Ex.retV ok Ev.cbool)
  case turn1 =>
    intro k t d hd _
    obtain ⟨c, hcm, rfl⟩ := case_at hd
    have hcok := hok c hcm
    let R4 : En := [some (.sh (.list (al.map .bytes))), some (.sh (.list (ol.map .bytes))), some (.sh (.name al)), some (.sh (.list ((ownS al ol).map .bytes))), some (.sh (.name (ownS al ol))), some (.sh (.list ((cases3 al ol).map caseV))), none, some (.sh (caseV c)), none, none]
    refine ExR.for (τ := Unit) ok 8 rfl (ItSrc.tup (ds := [.bool true, .bool false]) ok (Ev.tupD ok (Evs.cons ok Ev.cbool (Evs.cons ok Ev.cbool Evs.nil rfl) rfl) (by simp))) (fun _ => R4) (fun _ _ => True) () (Weak.refl _) trivial ?turn2 (fun t _ => ⟨(), trivial, .keep (.keep (.keep (.keep (.keep (.keep (.keep (.drop (.keep (.keep .nil)))))))))⟩)
    intro k2 t2 d2 hd2 _
    obtain ⟨on, rfl⟩ := bool_at hd2
    refine ExR.for (τ := Unit) ok 9 rfl (ItSrc.tup (ds := [.bool true, .bool false]) ok (Ev.tupD ok (Evs.cons ok Ev.cbool (Evs.cons ok Ev.cbool Evs.nil rfl) rfl) (by simp))) (fun _ => R4.set 8 (some (.sh (.bool on)))) (fun _ _ => True) () (Weak.refl _) trivial ?turn3 (fun t _ => ⟨(), trivial, .keep (.keep (.keep (.keep (.keep (.keep (.keep (.keep (.drop (.keep .nil)))))))))⟩)
    intro k3 t3 d3 hd3 _
    obtain ⟨pf, rfl⟩ := bool_at hd3
    refine ExR.ite ok (c := decide (refI (hrR on c.1 c.2.1 pf) ≠ c.2.2)) (TeR.cmp ok (EvR.call ok rfl gv_refusal (.inr (by kernel_rfl)) (m := 11) (by decide) (Evs.up (Evs.cons ok (Ev.name ok 8 rfl rfl) (Evs.cons ok (Ev.sub ok (Ev.name (d := caseV c) ok 7 rfl rfl) Ev.cint (.inr (.inl rfl)) (Op2.itemTup (d := .name c.1) (by rfl) (by simp))) (Evs.cons ok (Ev.sub ok (Ev.name (d := caseV c) ok 7 rfl rfl) Ev.cint (.inr (.inl rfl)) (Op2.itemTup (d := .name c.2.1) (by rfl) (by simp))) (Evs.cons ok (Ev.name ok 9 rfl rfl) Evs.nil rfl) rfl) rfl) rfl)) (fn_refusal hcok.g1 hcok.g2)) (Ev.sub ok (Ev.name (d := caseV c) ok 7 rfl rfl) Ev.cint (.inr (.inl rfl)) (Op2.itemTup (d := .int c.2.2) (by rfl) (by simp))) Op2.ne) (fun h => ?_) (fun h => ?_)
    · simp at h; exact (h (hcok.r on pf)).elim
    · exact ExR.nil ⟨(), trivial, .keep (.keep (.keep (.keep (.keep (.keep (.keep (.keep (.keep (.drop .nil)))))))))⟩
end
section
variable {g : GI} {f : Fm} {n : Nat} {ρ : En}
theorem ExR.freeze {i : Nat} {ds : List V} {b : List Stmt} {O : Out → Prop} (ok : FmOk g f n) (hb : ρ[i]? = some (some (.li ds))) (h : ExR g f (ρ.set i (some (.sh (.list ds)))) b O) : ExR g f ρ b O := fun σ s Q E S q ex => by
  have hi : Own ρ i := ⟨_, hb, rfl⟩
  have sub : ∀ j, Own (ρ.set i (some (.sh (.list ds)))) j → Own ρ j ∧ j ≠ i := fun j ⟨c, hc, oc⟩ => by
    rcases set_get hc with ⟨_, e'⟩ | ⟨e, e'⟩
    · injection e' with e'; subst e'; cases oc
    · exact ⟨⟨c, e', oc⟩, e⟩
  have subX : ∀ a, XOf f σ (ρ.set i (some (.sh (.list ds)))) a → XOf f σ ρ a := fun a ha => by
    rcases ha with ha | ha | ⟨j, hj, ha⟩
    · exact .inl ha
    · exact .inr (.inl ha)
    · exact .inr (.inr ⟨j, (sub j hj).1, ha⟩)
  refine ExR.after (σ := σ) (ρ := ρ) (s := s) (σ' := σ) h ?_ ⟨fun _ _ e _ _ => e, fun _ o e _ => ⟨o, e⟩, fun a ⟨j, hj, ha⟩ => .inl ⟨j, (sub j hj).1, ha⟩, rfl⟩ q ex
  have fr := S.fresh i hi
  have nX : ¬ XOf f σ (ρ.set i (some (.sh (.list ds)))) (σ.α i) := by
    rintro (ha | ha | ⟨j, hj, ha⟩)
    · exact S.offY i hi ha
    · exact fr.2.1 ha
    · exact (sub j hj).2 (S.inj i j hi (sub j hj).1 ha).symm
  obtain ⟨⟨m, hns, hv⟩, c, kE, nd, frs, len, Yfs, yex, offY, Y0⟩ := S
  refine ⟨⟨m, hns, fun j x d hx hd => ?_⟩, c, kE, fun j l hj hl => nd j l (sub j hj).1 (sub l hl).1, fun j hj => frs j (sub j hj).1, by rw [List.length_set]; exact len, Yfs, yex, fun j hj => offY j (sub j hj).1, Y0⟩
  rcases set_get hd with ⟨e, e'⟩ | ⟨e, e'⟩
  · subst e; injection e' with e'; subst e'
    obtain ⟨em, vs, k, ha, r, hl⟩ := hv j x _ hx hb
    refine ⟨_, em, ?_⟩
    simp only [Rep]
    exact ⟨_, vs, k, rfl, ⟨ha, nX⟩, r.mono (KX.refl _ _) fun a ha => .inl (subX a ha), hl⟩
  · exact (hv j x d hx e').step (KX.refl _ _) (fun a ha => .inl (subX a ha)) rfl fun _ _ e => e
abbrev kv (k : List Int) : V := .list (k.map .int)
abbrev lv (b : Lbl) : V := .list (b.map .bytes)
theorem Te.eqI {l r : Expr} {pos : Pos} {a b : List Int} (ok : FmOk g f n) (hn : 1 ≤ n) (hl : Ev g f ρ l (.ok (kv a))) (hr : Ev g f ρ r (.ok (kv b))) (hm : behindInMarks .Eq r = false := by rfl) : Te g f ρ (.Compare l [.Eq] [r] pos) (decide (a = b)) :=
  Te.cmp ok hl hr (Op2.eqI hn) hm
theorem Te.neI {l r : Expr} {pos : Pos} {a b : List Int} (ok : FmOk g f n) (hn : 1 ≤ n) (hl : Ev g f ρ l (.ok (kv a))) (hr : Ev g f ρ r (.ok (kv b))) (hm : behindInMarks .NotEq r = false := by rfl) : Te g f ρ (.Compare l [.NotEq] [r] pos) (!decide (a = b)) :=
  Te.cmp ok hl hr (Op2.neI hn) hm
theorem Te.ltI {l r : Expr} {pos : Pos} {a b : List Int} (ok : FmOk g f n) (hn : 1 ≤ n) (hl : Ev g f ρ l (.ok (kv a))) (hr : Ev g f ρ r (.ok (kv b))) (hm : behindInMarks .Lt r = false := by rfl) : Te g f ρ (.Compare l [.Lt] [r] pos) (ilt a b) := Te.cmp ok hl hr (Op2.ltL hn) hm
theorem TeR.neI {l r : Expr} {pos : Pos} {a b : List Int} (ok : FmOk g f n) (hn : 1 ≤ n) (hl : EvR g f ρ l (.ok (kv a))) (hr : Ev g f ρ r (.ok (kv b))) (hm : behindInMarks .NotEq r = false := by rfl) : TeR g f ρ (.Compare l [.NotEq] [r] pos) (!decide (a = b)) :=
  TeR.cmp ok hl hr (Op2.neI hn) hm
theorem Te.neL {l r : Expr} {pos : Pos} {a b : Lbl} (ok : FmOk g f n) (hn : 1 ≤ n) (hl : Ev g f ρ l (.ok (lv a))) (hr : Ev g f ρ r (.ok (lv b))) (hm : behindInMarks .NotEq r = false := by rfl) : Te g f ρ (.Compare l [.NotEq] [r] pos) (!decide (a = b)) :=
  Te.cmp ok hl hr (Op2.neL hn) hm
end
def olL (ns : List Int) : Lbl := nameL (drawL ns 0) [[]] 188
def alR (ns : List Int) : Lbl := nameL (drawL ns 1) (olL ns) 252
def alL (ns : List Int) : Lbl := (alR ns).map blow
def pre1 (k : List Int) (m : Nat) : List Int := slc k none (some (m : Int))
def tl1 (b : Lbl) : Lbl := slc b (some 1) none
structure BOk (ko ka ks kp kt kq kup : List Int) (la : Nat) (b : Lbl) : Prop where
  w : wire b ≤ 255
  b1 : ¬ (ilt ka (rowL b) = true ∧ (ks = ko ∨ ilt (rowL b) ks = true))
  b2 : ¬ (ilt kp (rowL b) = true ∧ (ka = ko ∨ ilt (rowL b) ka = true))
  b3 : ¬ (pre1 (rowL b) ka.length ≠ ka ∧ ilt ka (rowL b) = true ∧ (kt = ko ∨ ilt (rowL b) kt = true))
  b4 : ¬ (ka ≠ ko ∧ ilt kq (rowL b) = true ∧ ilt (rowL b) ka = true ∧ (rowL b = kup ∨ (b.length = la ∧ rowL (tl1 b) = kup)))
def toldL (al ol : Lbl) : List Lbl := [moveA true al ol true, moveA false al ol true, moveA true al ol false, moveA false al ol false]
structure LawOk (al ol : Lbl) : Prop where
  ga : Good al
  go : Good ol
  gw : Good (ownS al ol)
  hr : ∀ on pf, hrR on al ol pf = .ok (.name (moveA on al ol pf))
  gm : ∀ on pf, Good (moveA on al ol pf)
  told : ∀ x ∈ toldL al ol, lawfulB x = true ∧ pre1 (rowL x) (rowL ol).length = rowL ol
  c1 : rowL (moveA true al ol true) ≠ rowL ol → ilt (rowL al) (rowL (moveA true al ol true)) = true
  c2 : rowL al ≠ rowL ol → ilt (rowL (moveA false al ol true)) (rowL al) = true
  c3 : rowL (moveA true al ol false) ≠ rowL ol → ilt (rowL al) (rowL (moveA true al ol false)) = true ∧ pre1 (rowL (moveA true al ol false)) (rowL al).length ≠ rowL al
  c4 : rowL al = rowL ol → rowL (moveA false al ol false) = rowL (moveA false al ol true)
  c5 : rowL al ≠ rowL ol → ilt (rowL (moveA false al ol false)) (rowL al) = true ∧ (rowL (moveA false al ol false) = rowL (tl1 al) ∨ ((moveA false al ol false).length = al.length ∧ rowL (tl1 (moveA false al ol false)) = rowL (tl1 al)))
  c6 : ∃ x, hrR false (moveA true al ol true) ol true = .ok (.name x) ∧ wire x ≤ 255 ∧ rowL x = rowL al
  c7 : ∃ x, hrR true (moveA false al ol true) ol true = .ok (.name x) ∧ wire x ≤ 255 ∧ rowL x = rowL al
  hne : ∀ b ∈ al :: toldL al ol, ∀ l ∈ ownS b ol, l ≠ []
  bn : ∀ v, BOk (rowL ol) (rowL al) (rowL (moveA true al ol true)) (rowL (moveA false al ol true)) (rowL (moveA true al ol false)) (rowL (moveA false al ol false)) (rowL (tl1 al)) al.length (nameL v ol 252)
  ba : ∀ v, BOk (rowL ol) (rowL al) (rowL (moveA true al ol true)) (rowL (moveA false al ol true)) (rowL (moveA true al ol false)) (rowL (moveA false al ol false)) (rowL (tl1 al)) al.length (nameL v al 252)
  bu : rowL al ≠ rowL ol → ∀ v, BOk (rowL ol) (rowL al) (rowL (moveA true al ol true)) (rowL (moveA false al ol true)) (rowL (moveA true al ol false)) (rowL (moveA false al ol false)) (rowL (tl1 al)) al.length (nameL v (tl1 al) 252)
  bt : ∀ v, BOk (rowL ol) (rowL al) (rowL (moveA true al ol true)) (rowL (moveA false al ol true)) (rowL (moveA true al ol false)) (rowL (moveA false al ol false)) (rowL (tl1 al)) al.length (turnL v (al :: toldL al ol) ol)
  c9 : ∀ on pf, hrR on (ownS al ol) ol pf = .ok (.name (ownS (moveA on al ol pf) ol))
  c10 : RefOk al ol
section
variable {gp : GP}
theorem gv_lname : GV (gi gp) "_law_name" (.ref 514) := GV.glob (by kernel_rfl) (by rfl)
theorem gv_draw : GV (gi gp) "_law_draw" (.ref 488) := GV.glob (by kernel_rfl) (by rfl)
theorem gv_key : GV (gi gp) "_law_key" (.ref 529) := GV.glob (by kernel_rfl) (by rfl)
theorem gv_small : GV (gi gp) "_law_small" (.ref 519) := GV.glob (by kernel_rfl) (by rfl)
theorem gv_turn : GV (gi gp) "_law_turn" (.ref 534) := GV.glob (by kernel_rfl) (by rfl)
theorem gv_refusals : GV (gi gp) "_law_refusals" (.ref 546) := GV.glob (by kernel_rfl) (by rfl)
end
theorem pre1_map (k : List Int) (ko : List Int) : slc (k.map V.int) none (some ((ko.map V.int).length : Int)) = (pre1 k ko.length).map V.int := by
  rw [slc_map]; unfold pre1; rw [List.length_map]
theorem own_map (b o : Lbl) : slc (b.map V.bytes) none (some (((b.map V.bytes).length : Int) - ((o.map V.bytes).length : Int))) = (ownS b o).map V.bytes := by
  rw [slc_map]; unfold ownS; rw [List.length_map, List.length_map]
theorem tl1_map (b : Lbl) : slc (b.map V.bytes) (some 1) none = (tl1 b).map V.bytes := by
  rw [slc_map]; rfl
theorem tl1_len (b : Lbl) : (tl1 b).length ≤ b.length := slc_length_le _ _ _
theorem tl1_wire (b : Lbl) : wire (tl1 b) ≤ wire b := by
  unfold tl1; rw [show (some (1 : Int)) = some ((1 : Nat) : Int) from rfl]
  by_cases h : 1 ≤ b.length
  · rw [slc_hi _ _ h]; exact wire_drop _ _
  · have : b = [] := by cases b with
      | nil => rfl
      | cons _ _ => simp at h
    subst this; exact Int.le_refl _
theorem Ev.eqd {g : GI} {f : Fm} {ρ : En} {e : Expr} {d d' : V} (h : d = d') (he : Ev g f ρ e (.ok d)) : Ev g f ρ e (.ok d') := h ▸ he
section
variable {gp : GP}
theorem fn_law {ns : List Int} (h0 : (alR ns).length ≤ 1000 ∧ ∀ b ∈ alR ns, b.length ≤ 1000) (H : LawOk (alL ns) (olL ns)) : FnR (gi gp) 16 (.ref 553) [.scr ns] (.ok (.bool true)) := by
  refine FnR.introM (n := 15) (names := ["script"]) (loc := ["olabels", "alabels", "cut", "origin", "a", "ko", "ka", "s", "p", "told", "names", "keys", "x", "labels", "k", "ks", "kp", "kt", "kq", "kup", "others", "i", "v", "b", "kb", "loose", "again", "j", "whole"]) (xs := []) (dx := []) (by rfl) (by kernel_rfl) (fun vs s hv _ => bind1 (fun v => by rfl) vs s hv) (fun _ _ => by simp only [RepL]) (by decide +kernel) rfl (by decide +kernel) (by decide +kernel) ?_
  intro f₀ ok
  have lol := H.go.len
  refine ExR.assign (d := lv (olL ns)) ok 1 rfl (Ev.up (Ev.call ok rfl gv_lname (.inr (by kernel_rfl)) (m := 3) (by decide) (Evs.cons ok (Ev.call ok rfl gv_draw (.inr (by kernel_rfl)) (m := 1) (by decide) (Evs.cons ok (Ev.name ok 0 rfl rfl) (Evs.cons ok Ev.cint Evs.nil rfl) rfl) (fn_draw (i := 0) (by decide))) (Evs.cons ok (Ev.listD (ds := [.bytes []]) ok (Evs.cons ok (Ev.cbytes (by decide)) Evs.nil rfl) (by simp)) (Evs.cons ok Ev.cint Evs.nil rfl) rfl) rfl) (FnA.fn (ds := [.int _, .list (([[]] : Lbl).map .bytes), .int 188]) (fn_lname (by decide) (by decide) (by decide) (by decide))))) ?_
  refine ExR.assign (d := lv (alL ns)) ok 2 rfl (Ev.up (Ev.call ok rfl gv_small (.inr (by kernel_rfl)) (m := 1) (by decide) (Evs.cons ok (Ev.call ok rfl gv_lname (.inr (by kernel_rfl)) (m := 3) (by decide) (Evs.cons ok (Ev.call ok rfl gv_draw (.inr (by kernel_rfl)) (m := 1) (by decide) (Evs.cons ok (Ev.name ok 0 rfl rfl) (Evs.cons ok Ev.cint Evs.nil rfl) rfl) (fn_draw (i := 1) (by decide))) (Evs.cons ok (Ev.name ok 1 rfl rfl) (Evs.cons ok Ev.cint Evs.nil rfl) rfl) rfl) (FnA.fn (ds := [.int _, .list ((olL ns).map .bytes), .int 252]) (fn_lname (by omega) (wire_nonneg _) (by decide) (by decide)))) Evs.nil rfl) (fn_small h0.1 h0.2))) ?_
  clear h0
  generalize olL ns = ol at H lol
  generalize alL ns = al at H
  have lal := H.ga.len
  have sol : wire ol ≤ 255 := H.go.small
  have sal : wire al ≤ 255 := H.ga.small
  have hK : ∀ {b : Lbl}, wire b ≤ 255 → wire b ≤ 100000 := fun h => by omega
  have sK : ∀ {b : Lbl}, wire b ≤ 255 → (rowL b).length ≤ 255 := fun {b} h => by have := rowL_len b; omega
  refine ExR.assign ok 3 rfl (Ev.up (Ev.callB ok rfl gv_len kept_builtin (Evs.cons ok (Ev.name ok 1 rfl rfl) Evs.nil rfl) Bi.lenList)) ?_
  refine ExR.assign ok 4 rfl (Ev.up (Ev.call ok rfl gv_Name (.inr (by kernel_rfl)) (m := 5) (by decide) (Evs.cons ok (Ev.name ok 1 rfl rfl) Evs.nil rfl) (fn_Name H.go.lawful (by omega)))) ?_
  refine ExR.assign ok 5 rfl (Ev.up (Ev.call ok rfl gv_Name (.inr (by kernel_rfl)) (m := 5) (by decide) (Evs.cons ok (Ev.name ok 2 rfl rfl) Evs.nil rfl) (fn_Name H.ga.lawful (by omega)))) ?_
  refine ExR.assign ok 6 rfl (Ev.up (Ev.call ok rfl gv_key (.inr (by kernel_rfl)) (m := 1) (by decide) (Evs.cons ok (Ev.name ok 1 rfl rfl) Evs.nil rfl) (fn_key (hK sol)))) ?_
  refine ExR.assign ok 7 rfl (Ev.up (Ev.call ok rfl gv_key (.inr (by kernel_rfl)) (m := 1) (by decide) (Evs.cons ok (Ev.name ok 2 rfl rfl) Evs.nil rfl) (fn_key (hK sal)))) ?_
  refine ExR.assign ok 8 rfl (EvR.meth ok succM (m := 10) (by decide) (Ev.up (Ev.name ok 5 rfl rfl)) (Evs.up (Evs.cons ok (Ev.name ok 4 rfl rfl) Evs.nil rfl)) (H.hr true true ▸ fn_msucc1 H.ga H.go)) ?_
  refine ExR.assign ok 9 rfl (EvR.meth ok predM (m := 10) (by decide) (Ev.up (Ev.name ok 5 rfl rfl)) (Evs.up (Evs.cons ok (Ev.name ok 4 rfl rfl) Evs.nil rfl)) (H.hr false true ▸ fn_mpred1 H.ga H.go)) ?_
  refine ExR.assign (d := .list ((toldL al ol).map .name)) ok 10 rfl (EvR.listD (ds := [.name (moveA true al ol true), .name (moveA false al ol true), .name (moveA true al ol false), .name (moveA false al ol false)]) ok (EvsR.cons ok (Ev.up (Ev.name ok 8 rfl rfl)) (EvsR.cons ok (Ev.up (Ev.name ok 9 rfl rfl)) (EvsR.cons ok (EvR.meth ok succM (m := 10) (by decide) (Ev.up (Ev.name ok 5 rfl rfl)) (Evs.up (Evs.cons ok (Ev.name ok 4 rfl rfl) (Evs.cons ok Ev.cbool Evs.nil rfl) rfl)) (H.hr true false ▸ fn_msucc H.ga H.go)) (EvsR.cons ok (EvR.meth ok predM (m := 10) (by decide) (Ev.up (Ev.name ok 5 rfl rfl)) (Evs.up (Evs.cons ok (Ev.name ok 4 rfl rfl) (Evs.cons ok Ev.cbool Evs.nil rfl) rfl)) (H.hr false false ▸ fn_mpred H.ga H.go)) (Evs.up Evs.nil) rfl) rfl) rfl) rfl) (by simp)) ?_
  refine ExR.then (ρ' := [some (.sh (.scr ns)), some (.sh (lv ol)), some (.sh (lv al)), some (.sh (.int ((ol.map V.bytes).length : Nat))), some (.sh (.name ol)), some (.sh (.name al)), some (.sh (kv (rowL ol))), some (.sh (kv (rowL al))), some (.sh (.name (moveA true al ol true))), some (.sh (.name (moveA false al ol true))), some (.sh (.list ((toldL al ol).map .name))), some (.li [lv al]), none, none, none, none, none, none, none, none, none, none, none, none, none, none, none, none, none, none]) (Ex.assignO ok 11 rfl (EvO.listD ok (Evs.cons ok (Ev.name ok 2 rfl rfl) Evs.nil rfl) (by simp)) rfl (Ex.nil rfl)) ?_
  refine ExR.then (ρ' := [some (.sh (.scr ns)), some (.sh (lv ol)), some (.sh (lv al)), some (.sh (.int ((ol.map V.bytes).length : Nat))), some (.sh (.name ol)), some (.sh (.name al)), some (.sh (kv (rowL ol))), some (.sh (kv (rowL al))), some (.sh (.name (moveA true al ol true))), some (.sh (.name (moveA false al ol true))), some (.sh (.list ((toldL al ol).map .name))), some (.li [lv al]), some (.li []), none, none, none, none, none, none, none, none, none, none, none, none, none, none, none, none, none]) (Ex.assignO ok 12 rfl (EvO.listD (ds := []) ok Evs.nil (by simp)) rfl (Ex.nil rfl)) ?_
  let R1 : Nat → En := fun t => [some (.sh (.scr ns)), some (.sh (lv ol)), some (.sh (lv al)), some (.sh (.int ((ol.map V.bytes).length : Nat))), some (.sh (.name ol)), some (.sh (.name al)), some (.sh (kv (rowL ol))), some (.sh (kv (rowL al))), some (.sh (.name (moveA true al ol true))), some (.sh (.name (moveA false al ol true))), some (.sh (.list ((toldL al ol).map .name))), some (.li ((al :: (toldL al ol).take t).map lv)), some (.li (((toldL al ol).take t).map fun b => kv (rowL b))), none, none, none, none, none, none, none, none, none, none, none, none, none, none, none, none, none]
  refine ExR.seq (O₁ := fun o => o = .next (R1 4)) (Ex.up ?told) ?rest1 (fun o h hn => (hn _ h).elim)
  case told =>
    refine Ex.for (τ := Nat) ok 13 rfl (ItSrc.list ok (Ev.name ok 10 rfl rfl)) R1 (fun k t => t = k) 0 (by repeat (first | exact Weak.nil | refine Weak.keep ?_ | refine Weak.drop ?_)) rfl ?turn1 (fun t ht => by subst ht; rfl)
    intro k t d hd hJ
    subst hJ
    obtain ⟨x, hx, rfl⟩ := names_at hd
    have ht4 : t < 4 := (List.getElem?_eq_some_iff.mp hx).1
    have hxm := List.mem_of_getElem? hx
    obtain ⟨hlaw, hpre⟩ := H.told x hxm
    have gx : Good x := by
      have : x = (moveA true al ol true) ∨ x = (moveA false al ol true) ∨ x = (moveA true al ol false) ∨ x = (moveA false al ol false) := by
        have h := hxm
        unfold toldL at h
        simpa using h
      rcases this with rfl | rfl | rfl | rfl <;> exact H.gm _ _
    have sx := gx.small
    refine Ex.assign (d := lv x) ok 14 rfl (Ev.callB ok rfl gv_list kept_type (Evs.cons ok (Ev.labels ok labK (Ev.name ok 13 rfl rfl)) Evs.nil rfl) Bi.listT) ?_
    refine Ex.ifF ok (Te.not (Te.val (Ev.call ok rfl gv_lawful (.inr (by kernel_rfl)) (m := 2) (by decide) (Evs.cons ok (Ev.name ok 14 rfl rfl) Evs.nil rfl) fn_lawful))) (fun h => by rw [hlaw] at h; cases h) ?_
    refine Ex.assign ok 15 rfl (Ev.call ok rfl gv_key (.inr (by kernel_rfl)) (m := 1) (by decide) (Evs.cons ok (Ev.name ok 14 rfl rfl) Evs.nil rfl) (fn_key (hK sx))) ?_
    refine Ex.ifF ok (Te.neI (a := pre1 (rowL x) (rowL ol).length) ok (by decide) (Ev.eqd (congrArg V.list (pre1_map (rowL x) (rowL ol))) (Ev.sliceList ok (Ev.name ok 15 rfl rfl) EvP.no (EvP.at (Ev.callB ok rfl gv_len kept_builtin (Evs.cons ok (Ev.name ok 6 rfl rfl) Evs.nil rfl) Bi.lenList)))) (Ev.name ok 6 rfl rfl)) (fun h => by rw [hpre] at h; simp at h) ?_
    refine Ex.append ok 11 rfl rfl (Ev.name ok 14 rfl rfl) (by simp; exact small_line (by omega)) ?_
    refine Ex.append ok 12 rfl rfl (Ev.name ok 15 rfl rfl) (by simp; exact small_line (by omega)) (Ex.nil ⟨t + 1, rfl, ?_⟩)
    have e1 : (al :: (toldL al ol).take (t + 1)).map lv = (al :: (toldL al ol).take t).map lv ++ [lv x] := by rw [List.take_succ, hx]; simp
    have e2 : ((toldL al ol).take (t + 1)).map (fun b => kv (rowL b)) = ((toldL al ol).take t).map (fun b => kv (rowL b)) ++ [kv (rowL x)] := by rw [List.take_succ, hx]; simp
    simp only [R1, e1, e2]
    exact (by repeat (first | exact Weak.nil | refine Weak.keep ?_ | refine Weak.drop ?_))
  case rest1 =>
  intro ρ' h; injection h with h; subst h
  refine ExR.freeze (i := 11) (ds := (al :: toldL al ol).map lv) ok rfl ?_
  refine ExR.freeze (i := 12) (ds := (toldL al ol).map fun b => kv (rowL b)) ok rfl ?_
  refine ExR.assign ok 16 rfl (Ev.up (Ev.sub ok (Ev.name ok 12 rfl rfl) Ev.cint (.inl rfl) (Op2.itemList (d := kv (rowL (moveA true al ol true))) (by rfl) (by simp [toldL])))) ?_
  refine ExR.assign ok 17 rfl (Ev.up (Ev.sub ok (Ev.name ok 12 rfl rfl) Ev.cint (.inl rfl) (Op2.itemList (d := kv (rowL (moveA false al ol true))) (by rfl) (by simp [toldL])))) ?_
  refine ExR.assign ok 18 rfl (Ev.up (Ev.sub ok (Ev.name ok 12 rfl rfl) Ev.cint (.inl rfl) (Op2.itemList (d := kv (rowL (moveA true al ol false))) (by rfl) (by simp [toldL])))) ?_
  refine ExR.assign ok 19 rfl (Ev.up (Ev.sub ok (Ev.name ok 12 rfl rfl) Ev.cint (.inl rfl) (Op2.itemList (d := kv (rowL (moveA false al ol false))) (by rfl) (by simp [toldL])))) ?_
  refine ExR.ifF ok (Te.up (Te.bool (TAll.and_cons ok (Te.neI ok (by decide) (Ev.name ok 16 rfl rfl) (Ev.name ok 6 rfl rfl)) fun _ => (TAll.and1 ok (Te.not (Te.ltI ok (by decide) (Ev.name ok 7 rfl rfl) (Ev.name ok 16 rfl rfl))))))) (fun h => by simp at h; have := H.c1 h.1; rw [this] at h; cases h.2) ?_
  refine ExR.ifF ok (Te.up (Te.bool (TAll.and_cons ok (Te.neI ok (by decide) (Ev.name ok 7 rfl rfl) (Ev.name ok 6 rfl rfl)) fun _ => (TAll.and1 ok (Te.not (Te.ltI ok (by decide) (Ev.name ok 17 rfl rfl) (Ev.name ok 7 rfl rfl))))))) (fun h => by simp at h; have := H.c2 h.1; rw [this] at h; cases h.2) ?_
  refine ExR.ifF ok (Te.up (Te.bool (TAll.and_cons ok (Te.neI ok (by decide) (Ev.name ok 18 rfl rfl) (Ev.name ok 6 rfl rfl)) fun _ => (TAll.and1 ok (Te.bool (TAll.or_cons ok (Te.not (Te.ltI ok (by decide) (Ev.name ok 7 rfl rfl) (Ev.name ok 18 rfl rfl))) fun _ => (TAll.or1 ok (Te.eqI ok (by decide) (Ev.eqd (congrArg V.list (pre1_map (rowL (moveA true al ol false)) (rowL al))) (Ev.sliceList ok (Ev.name ok 18 rfl rfl) EvP.no (EvP.at (Ev.callB ok rfl gv_len kept_builtin (Evs.cons ok (Ev.name ok 7 rfl rfl) Evs.nil rfl) Bi.lenList)))) (Ev.name ok 7 rfl rfl))))))))) (fun h => by simp at h; obtain ⟨h1, h2⟩ := h; have h3 := H.c3 h1; rcases h2 with h2 | h2; (rw [h3.1] at h2; cases h2); exact (h3.2 h2).elim) ?_
  refine ExR.assign ok 20 rfl (Ev.up (Ev.name ok 6 rfl rfl)) ?_
  let R2 : En := [some (.sh (.scr ns)), some (.sh (lv ol)), some (.sh (lv al)), some (.sh (.int ((ol.map V.bytes).length : Nat))), some (.sh (.name ol)), some (.sh (.name al)), some (.sh (kv (rowL ol))), some (.sh (kv (rowL al))), some (.sh (.name (moveA true al ol true))), some (.sh (.name (moveA false al ol true))), some (.sh (.list ((toldL al ol).map .name))), some (.sh (.list ((al :: toldL al ol).map lv))), some (.sh (.list ((toldL al ol).map fun b => kv (rowL b)))), none, none, none, some (.sh (kv (rowL (moveA true al ol true)))), some (.sh (kv (rowL (moveA false al ol true)))), some (.sh (kv (rowL (moveA true al ol false)))), some (.sh (kv (rowL (moveA false al ol false)))), some (.sh (kv (if rowL al = rowL ol then rowL ol else rowL (tl1 al)))), none, none, none, none, none, none, none, none, none]
  refine ExR.seq (O₁ := fun o => o = .next R2) (Ex.up ?kup) ?rest2 (fun o h hn => (hn _ h).elim)
  case kup =>
    refine Ex.ite ok (Te.eqI ok (by decide) (Ev.name ok 7 rfl rfl) (Ev.name ok 6 rfl rfl)) (fun h => ?_) (fun h => ?_)
    · have h : rowL al = rowL ol := by simpa using h
      have e : (if rowL al = rowL ol then rowL ol else rowL (tl1 al)) = rowL ol := if_pos h
      simp only [R2, e]
      refine Ex.ite ok (Te.neI ok (by decide) (Ev.name ok 19 rfl rfl) (Ev.name ok 17 rfl rfl)) (fun h' => by simp at h'; exact (h' (H.c4 h)).elim) (fun _ => Ex.nil rfl)
    · have h : ¬ rowL al = rowL ol := by simpa using h
      have e : (if rowL al = rowL ol then rowL ol else rowL (tl1 al)) = rowL (tl1 al) := if_neg h
      simp only [R2, e]
      have h5 := H.c5 h
      refine Ex.assign ok 20 rfl (Ev.call ok rfl gv_key (.inr (by kernel_rfl)) (m := 1) (by decide) (Evs.cons ok (Ev.eqd (congrArg V.list (tl1_map al)) (Ev.sliceList ok (Ev.name ok 2 rfl rfl) (EvP.at Ev.cint) EvP.no)) Evs.nil rfl) (fn_key (ls := tl1 al) (hK (Int.le_trans (tl1_wire _) sal)))) ?_
      refine Ex.ifF ok (Te.not (Te.ltI ok (by decide) (Ev.name ok 19 rfl rfl) (Ev.name ok 7 rfl rfl))) (fun h' => by rw [h5.1] at h'; cases h') ?_
      refine Ex.ite ok (Te.bool (TAll.and_cons ok (Te.neI ok (by decide) (Ev.name ok 19 rfl rfl) (Ev.name ok 20 rfl rfl)) fun _ => (TAll.and1 ok (Te.bool (TAll.or_cons ok (Te.cmp ok (Ev.callB ok rfl gv_len kept_builtin (Evs.cons ok (Ev.sub ok (Ev.name ok 11 rfl rfl) Ev.cint (.inl rfl) (Op2.itemList (d := lv (moveA false al ol false)) (by rfl) (by simp [toldL]))) Evs.nil rfl) Bi.lenList) (Ev.callB ok rfl gv_len kept_builtin (Evs.cons ok (Ev.name ok 2 rfl rfl) Evs.nil rfl) Bi.lenList) Op2.ne) fun _ => (TAll.or1 ok (Te.neI ok (by decide) (Ev.call ok rfl gv_key (.inr (by kernel_rfl)) (m := 1) (by decide) (Evs.cons ok (Ev.eqd (congrArg V.list (tl1_map (moveA false al ol false))) (Ev.sliceList ok (Ev.sub ok (Ev.name ok 11 rfl rfl) Ev.cint (.inl rfl) (Op2.itemList (d := lv (moveA false al ol false)) (by rfl) (by simp [toldL]))) (EvP.at Ev.cint) EvP.no)) Evs.nil rfl) (fn_key (ls := tl1 (moveA false al ol false)) (hK (Int.le_trans (tl1_wire _) (H.gm false false).small)))) (Ev.name ok 20 rfl rfl)))))))) (fun h' => ?_) (fun _ => Ex.nil rfl)
      exfalso
      simp at h'
      obtain ⟨h1, h2⟩ := h'
      rcases h5.2 with h3 | ⟨h3, h4⟩
      · exact h1 h3
      · rcases h2 with h2 | h2
        · exact h2 (by rw [h3])
        · exact h2 h4
  case rest2 =>
  intro ρ' h; injection h with h; subst h
  obtain ⟨xc6, hx1, hx2, hx3⟩ := H.c6
  refine ExR.ifF ok (TeR.neI (a := rowL xc6) ok (by decide) (EvR.call ok rfl gv_key (.inr (by kernel_rfl)) (m := 1) (by decide) (EvsR.cons ok (EvR.callB (r := .ok (lv xc6)) ok rfl gv_list kept_type (EvsR.cons ok (EvR.labels ok labK (EvR.meth ok predM (m := 10) (by decide) (Ev.up (Ev.name ok 8 rfl rfl)) (Evs.up (Evs.cons ok (Ev.name ok 4 rfl rfl) Evs.nil rfl)) (hx1 ▸ fn_mpred1 (H.gm _ _) H.go))) (Evs.up Evs.nil) rfl) Bi.listT) (Evs.up Evs.nil) rfl) (Fn.up (fn_key (hK hx2)))) (Ev.name ok 7 rfl rfl)) (fun h => by rw [hx3] at h; simp at h) ?_
  obtain ⟨xc7, hx1, hx2, hx3⟩ := H.c7
  refine ExR.ifF ok (TeR.neI (a := rowL xc7) ok (by decide) (EvR.call ok rfl gv_key (.inr (by kernel_rfl)) (m := 1) (by decide) (EvsR.cons ok (EvR.callB (r := .ok (lv xc7)) ok rfl gv_list kept_type (EvsR.cons ok (EvR.labels ok labK (EvR.meth ok succM (m := 10) (by decide) (Ev.up (Ev.name ok 9 rfl rfl)) (Evs.up (Evs.cons ok (Ev.name ok 4 rfl rfl) Evs.nil rfl)) (hx1 ▸ fn_msucc1 (H.gm _ _) H.go))) (Evs.up Evs.nil) rfl) Bi.listT) (Evs.up Evs.nil) rfl) (Fn.up (fn_key (hK hx2)))) (Ev.name ok 7 rfl rfl)) (fun h => by rw [hx3] at h; simp at h) ?_
  refine ExR.then (ρ' := [some (.sh (.scr ns)), some (.sh (lv ol)), some (.sh (lv al)), some (.sh (.int ((ol.map V.bytes).length : Nat))), some (.sh (.name ol)), some (.sh (.name al)), some (.sh (kv (rowL ol))), some (.sh (kv (rowL al))), some (.sh (.name (moveA true al ol true))), some (.sh (.name (moveA false al ol true))), some (.sh (.list ((toldL al ol).map .name))), some (.sh (.list ((al :: toldL al ol).map lv))), some (.sh (.list ((toldL al ol).map fun b => kv (rowL b)))), none, none, none, some (.sh (kv (rowL (moveA true al ol true)))), some (.sh (kv (rowL (moveA false al ol true)))), some (.sh (kv (rowL (moveA true al ol false)))), some (.sh (kv (rowL (moveA false al ol false)))), some (.sh (kv (if rowL al = rowL ol then rowL ol else rowL (tl1 al)))), some (.li []), none, none, none, none, none, none, none, none]) (Ex.assignO ok 21 rfl (EvO.listD (ds := []) ok Evs.nil (by simp)) rfl (Ex.nil rfl)) ?_
  let B : Lbl → Prop := BOk (rowL ol) (rowL al) (rowL (moveA true al ol true)) (rowL (moveA false al ol true)) (rowL (moveA true al ol false)) (rowL (moveA false al ol false)) (rowL (tl1 al)) al.length
  let R3 : List Lbl → En := fun t => [some (.sh (.scr ns)), some (.sh (lv ol)), some (.sh (lv al)), some (.sh (.int ((ol.map V.bytes).length : Nat))), some (.sh (.name ol)), some (.sh (.name al)), some (.sh (kv (rowL ol))), some (.sh (kv (rowL al))), some (.sh (.name (moveA true al ol true))), some (.sh (.name (moveA false al ol true))), some (.sh (.list ((toldL al ol).map .name))), some (.sh (.list ((al :: toldL al ol).map lv))), some (.sh (.list ((toldL al ol).map fun b => kv (rowL b)))), none, none, none, some (.sh (kv (rowL (moveA true al ol true)))), some (.sh (kv (rowL (moveA false al ol true)))), some (.sh (kv (rowL (moveA true al ol false)))), some (.sh (kv (rowL (moveA false al ol false)))), some (.sh (kv (if rowL al = rowL ol then rowL ol else rowL (tl1 al)))), some (.li (t.map lv)), none, none, none, none, none, none, none, none]
  refine ExR.seq (O₁ := fun o => ∃ t : List Lbl, (∀ b ∈ t, B b) ∧ t.length ≤ 1000 ∧ o = .next (R3 t)) (Ex.up ?oth) ?rest3 (fun o h hn => let ⟨_, _, _, e⟩ := h; (hn _ e).elim)
  case oth =>
    refine Ex.for (τ := List Lbl) ok 22 rfl (ItSrc.range2 (b := min (max (ns.length : Int) 5) 6) ok rfl gv_range Ev.cint (Ev.callB ok rfl gv_min kept_builtin (Evs.cons ok (Ev.callB ok rfl gv_max kept_builtin (Evs.cons ok (Ev.callB ok rfl gv_len kept_builtin (Evs.cons ok (Ev.name ok 0 rfl rfl) Evs.nil rfl) Bi.lenScr) (Evs.cons ok Ev.cint Evs.nil rfl) rfl) Bi.max2) (Evs.cons ok Ev.cint Evs.nil rfl) rfl) Bi.min2) (by decide) (by decide) (by omega) (by omega)) R3 (fun k t => (∀ b ∈ t, B b) ∧ t.length ≤ 4 * k) [] (by repeat (first | exact Weak.nil | refine Weak.keep ?_ | refine Weak.drop ?_)) ⟨fun _ h => (nomatch h), by simp⟩ ?turn2 (fun t ht => ⟨t, ht.1, by have := ht.2; simp [vrange] at this; omega, rfl⟩)
    intro k t d hd hJ
    obtain ⟨hB, hlen⟩ := hJ
    simp only [vrange, List.getElem?_map, Option.map_eq_some_iff] at hd
    obtain ⟨i', hi, rfl⟩ := hd
    obtain ⟨q1, q2⟩ := List.getElem?_eq_some_iff.mp hi
    simp at q1 q2; subst q2
    have hk4 : k < 4 := by omega
    have hcast : ((2 : Int) + (k : Int)) = ((2 + k : Nat) : Int) := by omega
    rw [hcast]
    generalize hd : V.int ((2 + k : Nat) : Int) = d
    refine Ex.assign ok 23 rfl (Ev.call ok rfl gv_draw (.inr (by kernel_rfl)) (m := 1) (by decide) (Evs.cons ok (Ev.name ok 0 rfl rfl) (Evs.cons ok (hd ▸ (Ev.name ok 22 rfl rfl)) Evs.nil rfl) rfl) (fn_draw (i := 2 + k) (by omega))) ?_
    refine Ex.append ok 21 rfl rfl (Ev.call ok rfl gv_lname (.inr (by kernel_rfl)) (m := 3) (by decide) (Evs.cons ok (Ev.name ok 23 rfl rfl) (Evs.cons ok (Ev.name ok 1 rfl rfl) (Evs.cons ok Ev.cint Evs.nil rfl) rfl) rfl) (FnA.fn (ds := [.int _, .list (ol.map .bytes), .int 252]) (fn_lname (by omega) (wire_nonneg _) (by decide) (by decide)))) (by simp; exact small_line (by omega)) ?_
    refine Ex.append ok 21 rfl rfl (Ev.call ok rfl gv_lname (.inr (by kernel_rfl)) (m := 3) (by decide) (Evs.cons ok (Ev.name ok 23 rfl rfl) (Evs.cons ok (Ev.name ok 2 rfl rfl) (Evs.cons ok Ev.cint Evs.nil rfl) rfl) rfl) (FnA.fn (ds := [.int _, .list (al.map .bytes), .int 252]) (fn_lname (by omega) (wire_nonneg _) (by decide) (by decide)))) (by simp; exact small_line (by omega)) ?_
    let R4 : List Lbl → En := fun t3 => [some (.sh (.scr ns)), some (.sh (lv ol)), some (.sh (lv al)), some (.sh (.int ((ol.map V.bytes).length : Nat))), some (.sh (.name ol)), some (.sh (.name al)), some (.sh (kv (rowL ol))), some (.sh (kv (rowL al))), some (.sh (.name (moveA true al ol true))), some (.sh (.name (moveA false al ol true))), some (.sh (.list ((toldL al ol).map .name))), some (.sh (.list ((al :: toldL al ol).map lv))), some (.sh (.list ((toldL al ol).map fun b => kv (rowL b)))), none, none, none, some (.sh (kv (rowL (moveA true al ol true)))), some (.sh (kv (rowL (moveA false al ol true)))), some (.sh (kv (rowL (moveA true al ol false)))), some (.sh (kv (rowL (moveA false al ol false)))), some (.sh (kv (if rowL al = rowL ol then rowL ol else rowL (tl1 al)))), some (.li (t3.map lv)), some (.sh d), some (.sh (.int (drawL ns (2 + k)))), none, none, none, none, none, none]
    refine Ex.seq (O₁ := fun o => ∃ t3 : List Lbl, (∀ b ∈ t3, B b) ∧ t3.length ≤ 4 * k + 3 ∧ o = .next (R4 t3)) ?up1 ?rest4 (fun o h hn => let ⟨_, _, _, e⟩ := h; (hn _ e).elim)
    case up1 =>
      have hB2 : ∀ b ∈ t ++ [nameL (drawL ns (2 + k)) ol 252] ++ [nameL (drawL ns (2 + k)) al 252], B b := fun b hb => by
        rcases List.mem_append.mp hb with hb | hb
        · rcases List.mem_append.mp hb with hb | hb
          · exact hB b hb
          · simp at hb; subst hb; exact H.bn _
        · simp at hb; subst hb; exact H.ba _
      refine Ex.ite ok (Te.neI ok (by decide) (Ev.name ok 7 rfl rfl) (Ev.name ok 6 rfl rfl)) (fun h => ?_) (fun h => ?_)
      · refine Ex.append ok 21 rfl rfl (Ev.call ok rfl gv_lname (.inr (by kernel_rfl)) (m := 3) (by decide) (Evs.cons ok (Ev.name ok 23 rfl rfl) (Evs.cons ok (Ev.eqd (congrArg V.list (tl1_map al)) (Ev.sliceList ok (Ev.name ok 2 rfl rfl) (EvP.at Ev.cint) EvP.no)) (Evs.cons ok Ev.cint Evs.nil rfl) rfl) rfl) (FnA.fn (ds := [.int _, .list ((tl1 al).map .bytes), .int 252]) (fn_lname (Nat.le_trans (tl1_len _) (by omega)) (wire_nonneg _) (by decide) (by decide)))) (by simp; exact small_line (by omega)) (Ex.nil ⟨t ++ [nameL (drawL ns (2 + k)) ol 252] ++ [nameL (drawL ns (2 + k)) al 252] ++ [nameL (drawL ns (2 + k)) (tl1 al) 252], ?_, ?_, ?_⟩)
        · intro b hb
          rcases List.mem_append.mp hb with hb | hb
          · exact hB2 b hb
          · simp at hb; subst hb; exact H.bu (by simpa using h) _
        · simp; omega
        · simp only [R4, List.map_append]; rfl
      · refine Ex.nil ⟨t ++ [nameL (drawL ns (2 + k)) ol 252] ++ [nameL (drawL ns (2 + k)) al 252], hB2, ?_, ?_⟩
        · simp; omega
        · simp only [R4, List.map_append]; rfl
    case rest4 =>
      rintro ρ' ⟨t3, hB3, hl3, h⟩; injection h with h; subst h
      have hmem : ∀ b ∈ al :: toldL al ol, Good b := fun b hb => by
        rcases List.mem_cons.mp hb with rfl | hb
        · exact H.ga
        · have : b = (moveA true al ol true) ∨ b = (moveA false al ol true) ∨ b = (moveA true al ol false) ∨ b = (moveA false al ol false) := by unfold toldL at hb; simpa using hb
          rcases this with rfl | rfl | rfl | rfl <;> exact H.gm _ _
      refine Ex.append ok 21 rfl rfl (Ev.call ok rfl gv_turn (.inr (by kernel_rfl)) (m := 3) (by decide) (Evs.cons ok (Ev.name ok 23 rfl rfl) (Evs.cons ok (Ev.name ok 11 rfl rfl) (Evs.cons ok (Ev.name ok 1 rfl rfl) Evs.nil rfl) rfl) rfl) (fn_turn (names := al :: toldL al ol) (o := ol) rfl (fun b hb => by have := (hmem b hb).len; omega) (by omega) (fun b hb l hl => by have := (hmem b hb).mem hl; omega) H.hne)) (by simp; exact small_line (by omega)) (Ex.nil ⟨t3 ++ [turnL (drawL ns (2 + k)) (al :: toldL al ol) ol], ⟨?_, ?_⟩, ?_⟩)
      · intro b hb
        rcases List.mem_append.mp hb with hb | hb
        · exact hB3 b hb
        · simp at hb; subst hb; exact H.bt _
      · simp; omega
      · simp only [R3, List.map_append]
        exact (by repeat (first | exact Weak.nil | refine Weak.keep ?_ | refine Weak.drop ?_))
  case rest3 =>
  rintro ρ' ⟨t, hB, hlen, h⟩; injection h with h; subst h
  refine ExR.freeze (i := 21) (ds := t.map lv) ok rfl ?_
  let R5 : En := [some (.sh (.scr ns)), some (.sh (lv ol)), some (.sh (lv al)), some (.sh (.int ((ol.map V.bytes).length : Nat))), some (.sh (.name ol)), some (.sh (.name al)), some (.sh (kv (rowL ol))), some (.sh (kv (rowL al))), some (.sh (.name (moveA true al ol true))), some (.sh (.name (moveA false al ol true))), some (.sh (.list ((toldL al ol).map .name))), some (.sh (.list ((al :: toldL al ol).map lv))), some (.sh (.list ((toldL al ol).map fun b => kv (rowL b)))), none, none, none, some (.sh (kv (rowL (moveA true al ol true)))), some (.sh (kv (rowL (moveA false al ol true)))), some (.sh (kv (rowL (moveA true al ol false)))), some (.sh (kv (rowL (moveA false al ol false)))), some (.sh (kv (if rowL al = rowL ol then rowL ol else rowL (tl1 al)))), some (.sh (.list (t.map lv))), none, none, none, none, none, none, none, none]
  refine ExR.seq (O₁ := fun o => o = .next R5) (Ex.up ?chk) ?rest5 (fun o h hn => (hn _ h).elim)
  case chk =>
    refine Ex.for (τ := Unit) ok 24 rfl (ItSrc.list ok (Ev.name ok 21 rfl rfl)) (fun _ => R5) (fun _ _ => True) () (by repeat (first | exact Weak.nil | refine Weak.keep ?_ | refine Weak.drop ?_)) trivial ?turn3 (fun _ _ => rfl)
    intro k _ d hd _
    obtain ⟨b, hb, rfl⟩ := names_at hd
    have hBb : B b := hB b (List.mem_of_getElem? hb)
    have sb := hBb.w
    refine Ex.assign ok 25 rfl (Ev.call ok rfl gv_key (.inr (by kernel_rfl)) (m := 1) (by decide) (Evs.cons ok (Ev.name ok 24 rfl rfl) Evs.nil rfl) (fn_key (hK sb))) ?_
    refine Ex.ifF ok ((Te.bool (TAll.and_cons ok (Te.ltI ok (by decide) (Ev.name ok 7 rfl rfl) (Ev.name ok 25 rfl rfl)) fun _ => (TAll.and1 ok (Te.bool (TAll.or_cons ok (Te.eqI ok (by decide) (Ev.name ok 16 rfl rfl) (Ev.name ok 6 rfl rfl)) fun _ => (TAll.or1 ok (Te.ltI ok (by decide) (Ev.name ok 25 rfl rfl) (Ev.name ok 16 rfl rfl))))))))) (fun h => by simp at h; exact (hBb.b1 h).elim) ?_
    refine Ex.ifF ok ((Te.bool (TAll.and_cons ok (Te.ltI ok (by decide) (Ev.name ok 17 rfl rfl) (Ev.name ok 25 rfl rfl)) fun _ => (TAll.and1 ok (Te.bool (TAll.or_cons ok (Te.eqI ok (by decide) (Ev.name ok 7 rfl rfl) (Ev.name ok 6 rfl rfl)) fun _ => (TAll.or1 ok (Te.ltI ok (by decide) (Ev.name ok 25 rfl rfl) (Ev.name ok 7 rfl rfl))))))))) (fun h => by simp at h; exact (hBb.b2 h).elim) ?_
    refine Ex.ifF ok ((Te.bool (TAll.and_cons ok (Te.neI ok (by decide) (Ev.eqd (congrArg V.list (pre1_map (rowL b) (rowL al))) (Ev.sliceList ok (Ev.name ok 25 rfl rfl) EvP.no (EvP.at (Ev.callB ok rfl gv_len kept_builtin (Evs.cons ok (Ev.name ok 7 rfl rfl) Evs.nil rfl) Bi.lenList)))) (Ev.name ok 7 rfl rfl)) fun _ => (TAll.and_cons ok (Te.ltI ok (by decide) (Ev.name ok 7 rfl rfl) (Ev.name ok 25 rfl rfl)) fun _ => (TAll.and1 ok (Te.bool (TAll.or_cons ok (Te.eqI ok (by decide) (Ev.name ok 18 rfl rfl) (Ev.name ok 6 rfl rfl)) fun _ => (TAll.or1 ok (Te.ltI ok (by decide) (Ev.name ok 25 rfl rfl) (Ev.name ok 18 rfl rfl)))))))))) (fun h => by simp at h; exact (hBb.b3 h).elim) ?_
    refine Ex.ite ok (Te.bool (TAll.and_cons ok (Te.neI ok (by decide) (Ev.name ok 7 rfl rfl) (Ev.name ok 6 rfl rfl)) fun _ => (TAll.and_cons ok (Te.ltI ok (by decide) (Ev.name ok 19 rfl rfl) (Ev.name ok 25 rfl rfl)) fun _ => (TAll.and1 ok (Te.ltI ok (by decide) (Ev.name ok 25 rfl rfl) (Ev.name ok 7 rfl rfl)))))) (fun h => ?_) (fun _ => Ex.nil ⟨(), trivial, (by repeat (first | exact Weak.nil | refine Weak.keep ?_ | refine Weak.drop ?_))⟩)
    have h : ¬ rowL al = rowL ol ∧ ilt (rowL (moveA false al ol false)) (rowL b) = true ∧ ilt (rowL b) (rowL al) = true := by simpa using h
    have eK : (if rowL al = rowL ol then rowL ol else rowL (tl1 al)) = rowL (tl1 al) := if_neg h.1
    refine Ex.ite ok (Te.bool (TAll.or_cons ok (Te.eqI (b := rowL (tl1 al)) ok (by decide) (Ev.name ok 25 rfl rfl) (eK ▸ (Ev.name ok 20 rfl rfl))) fun _ => (TAll.or1 ok (Te.bool (TAll.and_cons ok (Te.cmp ok (Ev.callB ok rfl gv_len kept_builtin (Evs.cons ok (Ev.name ok 24 rfl rfl) Evs.nil rfl) Bi.lenList) (Ev.callB ok rfl gv_len kept_builtin (Evs.cons ok (Ev.name ok 2 rfl rfl) Evs.nil rfl) Bi.lenList) Op2.eq) fun _ => (TAll.and1 ok (Te.eqI (b := rowL (tl1 al)) ok (by decide) (Ev.call ok rfl gv_key (.inr (by kernel_rfl)) (m := 1) (by decide) (Evs.cons ok (Ev.eqd (congrArg V.list (tl1_map b)) (Ev.sliceList ok (Ev.name ok 24 rfl rfl) (EvP.at Ev.cint) EvP.no)) Evs.nil rfl) (fn_key (ls := tl1 b) (hK (Int.le_trans (tl1_wire _) sb)))) (eK ▸ (Ev.name ok 20 rfl rfl))))))))) (fun h' => ?_) (fun _ => Ex.nil ⟨(), trivial, (by repeat (first | exact Weak.nil | refine Weak.keep ?_ | refine Weak.drop ?_))⟩)
    exfalso
    simp at h'
    refine hBb.b4 ⟨h.1, h.2.1, h.2.2, ?_⟩
    rcases h' with h' | h'
    · exact .inl h'
    · refine .inr ⟨?_, h'.2⟩
      have := h'.1; omega
  case rest5 =>
  intro ρ' h; injection h with h; subst h
  have gw := H.gw
  have lw := gw.len
  refine ExR.assign ok 26 rfl (Ev.up (Ev.call ok rfl gv_Name (.inr (by kernel_rfl)) (m := 5) (by decide) (Evs.cons ok (Ev.eqd (congrArg V.list (own_map al ol)) (Ev.sliceList ok (Ev.name ok 2 rfl rfl) EvP.no (EvP.at (Ev.bin ok (Ev.callB ok rfl gv_len kept_builtin (Evs.cons ok (Ev.name ok 2 rfl rfl) Evs.nil rfl) Bi.lenList) (Ev.name ok 3 rfl rfl) Op2.sub)))) Evs.nil rfl) (fn_Name gw.lawful (by omega)))) ?_
  refine ExR.assign (d := .list (((toldL al ol).map fun b => ownS b ol).map .name)) ok 27 rfl (EvR.listD (ds := [.name (ownS (moveA true al ol true) ol), .name (ownS (moveA false al ol true) ol), .name (ownS (moveA true al ol false) ol), .name (ownS (moveA false al ol false) ol)]) ok (EvsR.cons ok (EvR.meth ok succM (m := 10) (by decide) (Ev.up (Ev.name ok 26 rfl rfl)) (Evs.up (Evs.cons ok (Ev.name ok 4 rfl rfl) Evs.nil rfl)) (H.c9 true true ▸ fn_msucc1 gw H.go)) (EvsR.cons ok (EvR.meth ok predM (m := 10) (by decide) (Ev.up (Ev.name ok 26 rfl rfl)) (Evs.up (Evs.cons ok (Ev.name ok 4 rfl rfl) Evs.nil rfl)) (H.c9 false true ▸ fn_mpred1 gw H.go)) (EvsR.cons ok (EvR.meth ok succM (m := 10) (by decide) (Ev.up (Ev.name ok 26 rfl rfl)) (Evs.up (Evs.cons ok (Ev.name ok 4 rfl rfl) (Evs.cons ok Ev.cbool Evs.nil rfl) rfl)) (H.c9 true false ▸ fn_msucc gw H.go)) (EvsR.cons ok (EvR.meth ok predM (m := 10) (by decide) (Ev.up (Ev.name ok 26 rfl rfl)) (Evs.up (Evs.cons ok (Ev.name ok 4 rfl rfl) (Evs.cons ok Ev.cbool Evs.nil rfl) rfl)) (H.c9 false false ▸ fn_mpred gw H.go)) (Evs.up Evs.nil) rfl) rfl) rfl) rfl) (by simp)) ?_
  let R6 : En := [some (.sh (.scr ns)), some (.sh (lv ol)), some (.sh (lv al)), some (.sh (.int ((ol.map V.bytes).length : Nat))), some (.sh (.name ol)), some (.sh (.name al)), some (.sh (kv (rowL ol))), some (.sh (kv (rowL al))), some (.sh (.name (moveA true al ol true))), some (.sh (.name (moveA false al ol true))), some (.sh (.list ((toldL al ol).map .name))), some (.sh (.list ((al :: toldL al ol).map lv))), some (.sh (.list ((toldL al ol).map fun b => kv (rowL b)))), none, none, none, some (.sh (kv (rowL (moveA true al ol true)))), some (.sh (kv (rowL (moveA false al ol true)))), some (.sh (kv (rowL (moveA true al ol false)))), some (.sh (kv (rowL (moveA false al ol false)))), some (.sh (kv (if rowL al = rowL ol then rowL ol else rowL (tl1 al)))), some (.sh (.list (t.map lv))), none, none, none, none, some (.sh (.name (ownS al ol))), some (.sh (.list (((toldL al ol).map fun b => ownS b ol).map .name))), none, none]
  refine ExR.seq (O₁ := fun o => o = .next R6) (Ex.up ?fin) ?rest6 (fun o h hn => (hn _ h).elim)
  case fin =>
    refine Ex.for (τ := Unit) ok 28 rfl (ItSrc.range1 (a := 4) ok rfl gv_range Ev.cint (by decide) (by decide)) (fun _ => R6) (fun _ _ => True) () (by repeat (first | exact Weak.nil | refine Weak.keep ?_ | refine Weak.drop ?_)) trivial ?turn4 (fun _ _ => rfl)
    intro k _ d hd _
    obtain ⟨hk, rfl⟩ := vr_at hd
    have hk4 : k < (toldL al ol).length := hk
    obtain ⟨x, hx⟩ : ∃ x, (toldL al ol)[k]? = some x := ⟨_, List.getElem?_eq_getElem hk4⟩
    have hx1 : (al :: toldL al ol)[k + 1]? = some x := hx
    have hx2 : ((toldL al ol).map fun b => ownS b ol)[k]? = some (ownS x ol) := by rw [List.getElem?_map, hx]; rfl
    have hcast : ((k : Int) + 1) = ((k + 1 : Nat) : Int) := by omega
    refine Ex.assign (d := lv x) ok 29 rfl (Ev.sub ok (Ev.name ok 11 rfl rfl) (Ev.bin ok (Ev.name ok 28 rfl rfl) Ev.cint Op2.add) (.inl rfl) (hcast ▸ Op2.itemList (at_of (f := lv) hx1) (by omega))) ?_
    refine Ex.ite ok (Te.neL (a := ownS x ol) (b := ownS x ol) ok (by decide) (Ev.callB ok rfl gv_list kept_type (Evs.cons ok (Ev.labels ok labK (Ev.sub ok (Ev.name ok 27 rfl rfl) (Ev.name ok 28 rfl rfl) (.inl rfl) (Op2.itemList (at_of (f := V.name) hx2) (by omega)))) Evs.nil rfl) Bi.listT) (Ev.eqd (congrArg V.list (own_map x ol)) (Ev.sliceList ok (Ev.name ok 29 rfl rfl) EvP.no (EvP.at (Ev.bin ok (Ev.callB ok rfl gv_len kept_builtin (Evs.cons ok (Ev.name ok 29 rfl rfl) Evs.nil rfl) Bi.lenList) (Ev.name ok 3 rfl rfl) Op2.sub))))) (fun h => by simp at h) (fun _ => Ex.nil ⟨(), trivial, (by repeat (first | exact Weak.nil | refine Weak.keep ?_ | refine Weak.drop ?_))⟩)
  case rest6 =>
  intro ρ' h; injection h with h; subst h
  exact ExR.retR ok (EvR.call ok rfl gv_refusals (.inr (by kernel_rfl)) (m := 13) (by decide) (Evs.up (Evs.cons ok (Ev.name ok 2 rfl rfl) (Evs.cons ok (Ev.name ok 1 rfl rfl) Evs.nil rfl) rfl)) (fn_refusals H.c10))
end
theorem ilt_irrefl : ∀ a : List Int, ilt a a = false
  | [] => rfl
  | a :: r => by simp [ilt, ilt_irrefl r]
theorem ilt_asymm : ∀ a b : List Int, ilt a b = true → ilt b a = false
  | [], [], h => by simp [ilt] at h
  | [], _ :: _, _ => by simp [ilt]
  | _ :: _, [], h => by simp [ilt] at h
  | a :: r, b :: t, h => by
    unfold ilt at h ⊢
    by_cases e : a = b
    · subst e; simp at h ⊢; exact ilt_asymm r t h
    · rw [if_neg e] at h; rw [if_neg (Ne.symm e)]; simp at h ⊢; omega
theorem ilt_tri : ∀ a b : List Int, ilt a b = false → ilt b a = false → a = b
  | [], [], _, _ => rfl
  | [], _ :: _, h, _ => by simp [ilt] at h
  | _ :: _, [], _, h => by simp [ilt] at h
  | a :: r, b :: t, h, h' => by
    unfold ilt at h h'
    by_cases e : a = b
    · subst e; simp at h h'; rw [ilt_tri r t h h']
    · rw [if_neg e] at h; rw [if_neg (Ne.symm e)] at h'; simp at h h'; omega
theorem ilt_cons (a b : Int) (r t : List Int) : ilt (a :: r) (b :: t) = if a = b then ilt r t else decide (a < b) := rfl
theorem ilt_app (p a b : List Int) : ilt (p ++ a) (p ++ b) = ilt a b := by
  induction p with
  | nil => rfl
  | cons x p ih => rw [List.cons_append, List.cons_append, ilt_cons, if_pos rfl]; exact ih
theorem ilt_nil (a : List Int) : ilt a [] = false := by cases a <;> rfl
theorem ilt_ext (a w : List Int) : ilt (a ++ w) a = false := by
  have := ilt_app a w []
  rw [List.append_nil] at this; rw [this, ilt_nil]
inductive Dg : List Int → List Int → Prop
  | hd {a b : Int} {u v : List Int} : b < a → Dg (a :: u) (b :: v)
  | tl {a : Int} {u v : List Int} : Dg u v → Dg (a :: u) (a :: v)
theorem Dg.app {x y : List Int} (h : Dg x y) (u v : List Int) : Dg (x ++ u) (y ++ v) := by
  induction h with
  | hd h => exact .hd h
  | tl _ ih => exact .tl ih
theorem Dg.appR {x y : List Int} (h : Dg x y) (v : List Int) : Dg x (y ++ v) := by have := h.app [] v; rwa [List.append_nil] at this
theorem Dg.appL {x y : List Int} (h : Dg x y) (v : List Int) : Dg (x ++ v) y := by have := h.app v []; rwa [List.append_nil] at this
theorem Dg.pre {x y : List Int} (h : Dg x y) : ∀ q : List Int, Dg (q ++ x) (q ++ y)
  | [] => h
  | _ :: q => .tl (h.pre q)
theorem Dg.lt {x y : List Int} (h : Dg x y) : ilt y x = true := by
  induction h with
  | hd h => rw [ilt_cons, if_neg (by omega)]; simpa using h
  | tl _ ih => rw [ilt_cons, if_pos rfl]; exact ih
theorem Dg.ge {x y : List Int} (h : Dg x y) : ilt x y = false := ilt_asymm _ _ h.lt
theorem cmp4 : ∀ x y : List Int, Dg x y ∨ Dg y x ∨ (∃ w, x = y ++ w) ∨ (∃ w, y = x ++ w)
  | x, [] => .inr (.inr (.inl ⟨x, rfl⟩))
  | [], y => .inr (.inr (.inr ⟨y, rfl⟩))
  | a :: u, b :: v => by
    by_cases h : a = b
    · subst h
      rcases cmp4 u v with h | h | ⟨w, h⟩ | ⟨w, h⟩
      · exact .inl (.tl h)
      · exact .inr (.inl (.tl h))
      · exact .inr (.inr (.inl ⟨w, by rw [h]; rfl⟩))
      · exact .inr (.inr (.inr ⟨w, by rw [h]; rfl⟩))
    · by_cases h2 : b < a
      · exact .inl (.hd h2)
      · exact .inr (.inl (.hd (by omega)))
theorem lt_cases {x y : List Int} (h : ilt y x = true) : Dg x y ∨ ∃ w, w ≠ [] ∧ x = y ++ w := by
  rcases cmp4 x y with h1 | h1 | ⟨w, h1⟩ | ⟨w, h1⟩
  · exact .inl h1
  · rw [h1.ge] at h; cases h
  · refine .inr ⟨w, fun e => ?_, h1⟩
    subst e; rw [List.append_nil] at h1; subst h1; rw [ilt_irrefl] at h; cases h
  · subst h1; rw [ilt_ext] at h; cases h
theorem Dg.split {x p u : List Int} (h : Dg x (p ++ u)) : Dg x p ∨ ∃ w, x = p ++ w ∧ Dg w u := by
  induction p generalizing x with
  | nil => exact .inr ⟨x, rfl, h⟩
  | cons a p ih =>
    rw [List.cons_append] at h
    cases h with
    | hd h => exact .inl (.hd h)
    | tl h =>
      rcases ih h with h1 | ⟨w, e, h1⟩
      · exact .inl (.tl h1)
      · exact .inr ⟨w, by rw [e]; rfl, h1⟩
theorem Dg.ntake {x y : List Int} (h : Dg x y) : x.take y.length ≠ y := by
  induction h with
  | hd h => intro e; simp at e; omega
  | tl _ ih => intro e; simp at e; exact ih e
theorem dg_of {x y : List Int} (h : ilt y x = true) (h2 : x.take y.length ≠ y) : Dg x y := by
  rcases lt_cases h with h | ⟨w, _, rfl⟩
  · exact h
  · simp at h2
theorem pre1_eq (k : List Int) (m : Nat) : pre1 k m = k.take m := by
  unfold pre1
  by_cases h : m ≤ k.length
  · exact slc_lo _ _ h
  · have hl := Nat.le_of_lt (Nat.lt_of_not_le h)
    have h1 : clipAt k.length (m : Int) = k.length := (clip_nn _ _).trans (Nat.min_eq_right hl)
    have h2 : k.take m = k := List.take_of_length_le hl
    unfold slc clo chi
    simp only [h1]
    rw [h2]; simp
def ek (l : List UInt8) : List Int := l.map keyI
def EOk (c : Int) : Prop := (1 ≤ c ∧ c ≤ 65) ∨ (92 ≤ c ∧ c ≤ 256)
theorem keyI_ok (c : UInt8) : EOk (keyI c) := u8all (P := fun c => (1 ≤ keyI c ∧ keyI c ≤ 65) ∨ (92 ≤ keyI c ∧ keyI c ≤ 256)) (by decide +kernel) c
theorem ek_ok {l : List UInt8} {c : Int} (h : c ∈ ek l) : EOk c := by
  unfold ek at h
  obtain ⟨d, _, rfl⟩ := List.mem_map.mp h; exact keyI_ok d
theorem EOk.pos {c : Int} (h : EOk c) : 1 ≤ c := by unfold EOk at h; omega
theorem EOk.le {c : Int} (h : EOk c) : c ≤ 256 := by unfold EOk at h; omega
theorem ek_len (l : List UInt8) : (ek l).length = l.length := by unfold ek; simp
theorem ek_app (a b : List UInt8) : ek (a ++ b) = ek a ++ ek b := by unfold ek; simp
theorem rowL_acc (ls : Lbl) : ∀ acc : List Int, ls.foldl (fun acc b => b.map keyI ++ [0] ++ acc) acc = rowL ls ++ acc := by
  unfold rowL
  induction ls with
  | nil => intro acc; rfl
  | cons b r ih => intro acc; rw [List.foldl_cons, List.foldl_cons, ih, ih (List.map keyI b ++ [0] ++ [])]; simp
theorem rowL_cons (b : List UInt8) (ls : Lbl) : rowL (b :: ls) = rowL ls ++ (ek b ++ [0]) := by
  show (b :: ls).foldl (fun acc b => b.map keyI ++ [0] ++ acc) [] = _
  rw [List.foldl_cons, rowL_acc]; simp [ek]
theorem rowL_nil : rowL [] = [] := rfl
theorem rowL_app (a b : Lbl) : rowL (a ++ b) = rowL b ++ rowL a := by
  induction a with
  | nil => rw [rowL_nil]; simp
  | cons x a ih => rw [List.cons_append, rowL_cons, rowL_cons, ih]; simp
def SegOk (s : List Int) : Prop := 1 ≤ s.length ∧ s.length ≤ 63 ∧ ∀ c ∈ s, EOk c
inductive Vk : List Int → Prop
  | nil : Vk []
  | cons {s w : List Int} : SegOk s → Vk w → Vk (s ++ 0 :: w)
theorem Vk.app {x y : List Int} (hx : Vk x) (hy : Vk y) : Vk (x ++ y) := by
  induction hx with
  | nil => exact hy
  | cons h _ ih => rw [List.append_assoc, List.cons_append]; exact .cons h ih
theorem zsplit : ∀ {s t u v : List Int}, (∀ c ∈ s, EOk c) → (∀ c ∈ t, EOk c) → s ++ 0 :: u = t ++ 0 :: v → s = t ∧ u = v
  | [], [], u, v, _, _, h => by simp at h; exact ⟨rfl, h⟩
  | [], c :: t, u, v, _, ht, h => by
    exfalso; have := (ht c (.head _)).pos
    simp at h; omega
  | c :: s, [], u, v, hs, _, h => by
    exfalso; have := (hs c (.head _)).pos
    simp at h; omega
  | c :: s, d :: t, u, v, hs, ht, h => by
    rw [List.cons_append, List.cons_append] at h
    injection h with h1 h2
    obtain ⟨e1, e2⟩ := zsplit (fun c hc => hs c (.tail _ hc)) (fun c hc => ht c (.tail _ hc)) h2
    exact ⟨by rw [h1, e1], e2⟩
theorem Vk.inv {x : List Int} (h : Vk x) : x = [] ∨ ∃ s w, x = s ++ 0 :: w ∧ SegOk s ∧ Vk w := by
  cases h with
  | nil => exact .inl rfl
  | cons h1 h2 => exact .inr ⟨_, _, rfl, h1, h2⟩
theorem Vk.tail {s w : List Int} (hs : ∀ c ∈ s, EOk c) (h : Vk (s ++ 0 :: w)) : SegOk s ∧ Vk w := by
  rcases h.inv with e | ⟨t, v, e, h1, h2⟩
  · simp at e
  · obtain ⟨e1, e2⟩ := zsplit hs h1.2.2 e
    subst e1 e2; exact ⟨h1, h2⟩
theorem Vk.parse : ∀ {ls : Lbl} {w : List Int}, Vk (rowL ls ++ w) → Vk w
  | [], w, h => h
  | l :: r, w, h => by
    rw [rowL_cons, List.append_assoc, List.append_assoc] at h
    have := Vk.parse (ls := r) h
    exact (Vk.tail (fun c hc => ek_ok hc) this).2
def LabOk (own : Lbl) : Prop := ∀ l ∈ own, 1 ≤ l.length ∧ l.length ≤ 63
theorem vk_row : ∀ {own : Lbl}, LabOk own → Vk (rowL own)
  | [], _ => .nil
  | l :: r, h => by
    rw [rowL_cons]
    have hl := h l (.head _)
    exact (vk_row fun m hm => h m (.tail _ hm)).app (.cons (w := []) ⟨by rw [ek_len]; exact hl.1, by rw [ek_len]; exact hl.2, fun c hc => ek_ok hc⟩ .nil)
theorem Vk.len2 {w : List Int} (h : Vk w) (hn : w ≠ []) : 2 ≤ w.length := by
  rcases h.inv with e | ⟨s, v, e, h1, h2⟩
  · exact (hn e).elim
  · subst e; have := h1.1; simp; omega
theorem Vk.nonneg {w : List Int} (h : Vk w) : ∀ c ∈ w, 0 ≤ c := by
  induction h with
  | nil => intro c hc; cases hc
  | cons h1 _ ih =>
    intro c hc
    rcases List.mem_append.mp hc with hc | hc
    · have := (h1.2.2 c hc).pos; omega
    · rcases List.mem_cons.mp hc with rfl | hc
      · decide
      · exact ih c hc
theorem lt_zero {x : List Int} (h : ∀ c ∈ x, 0 ≤ c) (hn : x ≠ []) : ilt x [0] = false := by
  cases x with
  | nil => exact (hn rfl).elim
  | cons c r =>
    have := h c (.head _)
    rw [ilt_cons]
    split
    · exact ilt_nil _
    · simp; omega
theorem lt_one {t v : List Int} (ht : ∀ c ∈ t, EOk c) (hn : t ≠ []) (hv : ∀ c ∈ v, 0 ≤ c) : ilt (t ++ 0 :: v) [1, 0] = false := by
  cases t with
  | nil => exact (hn rfl).elim
  | cons c r =>
    have hc := (ht c (.head _)).pos
    rw [List.cons_append, ilt_cons]
    split
    · refine lt_zero (fun d hd => ?_) (by simp)
      rcases List.mem_append.mp hd with hd | hd
      · have := (ht d (.tail _ hd)).pos; omega
      · rcases List.mem_cons.mp hd with rfl | hd
        · decide
        · exact hv d hd
    · simp; omega
theorem Vk.lt_one {w : List Int} (h : Vk w) (hn : w ≠ []) : ilt w [1, 0] = false := by
  rcases h.inv with e | ⟨s, v, e, h1, h2⟩
  · exact (hn e).elim
  · subst e
    exact Mine.lt_one h1.2.2 (fun e => by have := h1.1; rw [e] at this; simp at this) h2.nonneg
def SmO (c : UInt8) : Prop := ¬ (65 ≤ c.toNat ∧ c.toNat ≤ 90)
def SmL (l : List UInt8) : Prop := ∀ c ∈ l, SmO c
def SmN (own : Lbl) : Prop := ∀ l ∈ own, SmL l
theorem keyI_sm {c : UInt8} (h : SmO c) : keyI c = (c.toNat : Int) + 1 := u8all (P := fun c => ¬ (65 ≤ c.toNat ∧ c.toNat ≤ 90) → keyI c = (c.toNat : Int) + 1) (by decide +kernel) c h
theorem sm0 : SmO 0 := by unfold SmO; decide
theorem sm255 : SmO 255 := by unfold SmO; decide
theorem incO_sm' (c : UInt8) : ¬ (65 ≤ c.toNat ∧ c.toNat ≤ 90) → c ≠ 255 → ¬ (65 ≤ (incO c).toNat ∧ (incO c).toNat ≤ 90) ∧ (keyI (incO c) = keyI c + 1 ∨ (keyI c = 65 ∧ keyI (incO c) = 92)) := u8all (P := fun c => ¬ (65 ≤ c.toNat ∧ c.toNat ≤ 90) → c ≠ 255 → ¬ (65 ≤ (incO c).toNat ∧ (incO c).toNat ≤ 90) ∧ (keyI (incO c) = keyI c + 1 ∨ (keyI c = 65 ∧ keyI (incO c) = 92))) (by decide +kernel) c
theorem incO_sm {c : UInt8} (h : SmO c) (h2 : c ≠ 255) : SmO (incO c) ∧ keyI c < keyI (incO c) ∧ ∀ e : Int, EOk e → keyI c < e → keyI (incO c) ≤ e := by
  obtain ⟨h3, h4⟩ := incO_sm' c h h2
  refine ⟨h3, ?_, fun e he hl => ?_⟩
  · rcases h4 with h4 | ⟨h4, h5⟩
    · rw [h4]; exact Int.lt_succ _
    · rw [h4, h5]; decide
  · rcases h4 with h4 | ⟨h4, h5⟩
    · rw [h4]; exact hl
    · rw [h5]; rw [h4] at hl
      rcases he with he | he
      · exact absurd he.2 (Int.not_le.mpr hl)
      · exact he.1
theorem decO_sm {c : UInt8} (h : SmO c) (h0 : c ≠ 0) : SmO (decO c) ∧ decO c ≠ 255 ∧ incO (decO c) = c :=
  u8all (P := fun c => ¬ (65 ≤ c.toNat ∧ c.toNat ≤ 90) → c ≠ 0 → ¬ (65 ≤ (decO c).toNat ∧ (decO c).toNat ≤ 90) ∧ decO c ≠ 255 ∧ incO (decO c) = c) (by decide +kernel) c h h0
theorem cut_sm : ∀ {l l' : List UInt8}, SmL l → cutL l = some l' → SmL l' ∧ Dg (ek l') (ek l)
  | [], l', _, h => by cases h
  | c :: r, l', hs, h => by
    unfold cutL at h
    cases q : cutL r with
    | some r' =>
      rw [q] at h; injection h with h; subst h
      obtain ⟨h1, h2⟩ := cut_sm (l := r) (fun d hd => hs d (.tail _ hd)) q
      refine ⟨fun d hd => ?_, .tl h2⟩
      rcases List.mem_cons.mp hd with rfl | hd
      · exact hs d (.head _)
      · exact h1 d hd
    | none =>
      rw [q] at h; dsimp only at h
      split at h
      · cases h
      · rename_i hc
        injection h with h; subst h
        obtain ⟨h1, h2, _⟩ := incO_sm (hs c (.head _)) hc
        refine ⟨fun d hd => ?_, .hd h2⟩
        rcases List.mem_cons.mp hd with rfl | hd
        · exact h1
        · cases hd
theorem cutD : ∀ {l : List UInt8} {s : List Int}, SmL l → (∀ c ∈ s, EOk c) → Dg s (ek l) → ∃ l', cutL l = some l' ∧ ∀ v : List Int, (∀ c ∈ v, 0 ≤ c) → ilt (s ++ 0 :: v) (ek l' ++ [0]) = false
  | [], s, _, _, h => by cases h
  | c :: r, s, hs, hE, h => by
    have hc := hs c (.head _)
    have h' : Dg s (keyI c :: ek r) := h
    cases h' with
    | @hd e b u v hlt =>
      cases q : cutL r with
      | some r' =>
        refine ⟨c :: r', by unfold cutL; rw [q], fun v _ => ?_⟩
        show ilt (e :: (u ++ 0 :: v)) (keyI c :: (ek r' ++ [0])) = false
        rw [ilt_cons, if_neg (by omega)]; simp; omega
      | none =>
        have he := hE e (.head _)
        have hne : c ≠ 255 := fun e' => by subst e'; have : keyI 255 = 256 := by decide
                                           have := he.le; omega
        obtain ⟨_, _, h3⟩ := incO_sm hc hne
        have h3 := h3 e he hlt
        refine ⟨[incO c], by unfold cutL; rw [q]; simp [hne], fun v hv => ?_⟩
        show ilt (e :: (u ++ 0 :: v)) (keyI (incO c) :: [0]) = false
        rw [ilt_cons]
        split
        · refine lt_zero (fun d hd => ?_) (by simp)
          rcases List.mem_append.mp hd with hd | hd
          · have := (hE d (.tail _ hd)).pos; omega
          · rcases List.mem_cons.mp hd with rfl | hd
            · decide
            · exact hv d hd
        · simp; omega
    | @tl e u v hd =>
      obtain ⟨r', q, h2⟩ := cutD (l := r) (fun d hd => hs d (.tail _ hd)) (fun d hd => hE d (.tail _ hd)) hd
      refine ⟨c :: r', by unfold cutL; rw [q], fun v hv => ?_⟩
      show ilt (keyI c :: (u ++ 0 :: v)) (keyI c :: (ek r' ++ [0])) = false
      rw [ilt_cons, if_pos rfl]; exact h2 v hv
theorem Dg.inv {a b : Int} {u v : List Int} (h : Dg (a :: u) (b :: v)) : b < a ∨ (a = b ∧ Dg u v) := by
  cases h with
  | hd h => exact .inl h
  | tl h => exact .inr ⟨rfl, h⟩
theorem labC : ∀ {s : List Int} {l : List UInt8} {v : List Int}, (∀ c ∈ s, EOk c) → Dg (s ++ 0 :: v) (ek l ++ [0]) → (∃ t, t ≠ [] ∧ s = ek l ++ t) ∨ Dg s (ek l)
  | [], [], v, _, h => by
    have h' : Dg (0 :: v) [0] := h
    cases h' with
    | hd h => omega
    | tl h => cases h
  | c :: s, [], v, _, h => .inl ⟨c :: s, by simp, rfl⟩
  | [], x :: l, v, _, h => by
    have hx := (keyI_ok x).pos
    have h' : Dg (0 :: v) (keyI x :: (ek l ++ [0])) := h
    rcases h'.inv with h | ⟨h, _⟩ <;> omega
  | c :: s, x :: l, v, hE, h => by
    have h' : Dg (c :: (s ++ 0 :: v)) (keyI x :: (ek l ++ [0])) := h
    cases h' with
    | hd h => exact .inr (.hd h)
    | tl h =>
      rcases labC (fun d hd => hE d (.tail _ hd)) h with ⟨t, h1, h2⟩ | h1
      · exact .inl ⟨t, h1, by rw [h2]; rfl⟩
      · exact .inr (.tl h1)
def nx (B : Int) : Lbl → Option Lbl
  | [] => none
  | l :: rest => if l.length < 63 ∧ wire ((l ++ [0]) :: rest) ≤ B then some ((l ++ [0]) :: rest) else match cutL l with
    | some l' => some (l' :: rest)
    | none => nx B rest
theorem ek_zero (l : List UInt8) : ek (l ++ [0]) ++ [0] = ek l ++ [1, 0] := by rw [ek_app]; simp [ek]; decide
theorem nx_up {B : Int} : ∀ {own n : Lbl}, SmN own → nx B own = some n → Dg (rowL n) (rowL own)
  | [], n, _, h => by cases h
  | l :: rest, n, hs, h => by
    unfold nx at h
    rw [rowL_cons]
    split at h
    · injection h with h; subst h
      rw [rowL_cons, ek_zero]
      exact Dg.pre (Dg.pre (.hd (by decide)) _) _
    · split at h
      · rename_i l' q
        injection h with h; subst h
        rw [rowL_cons]
        exact Dg.pre ((cut_sm (hs l (.head _)) q).2.app _ _) _
      · exact (nx_up (fun m hm => hs m (.tail _ hm)) h).appR _
structure Fit (B : Int) (own : Lbl) : Prop where
  lab : LabOk own
  sm : SmN own
  w : wire own ≤ B
theorem Fit.tail {B : Int} {l : List UInt8} {rest : Lbl} (h : Fit B (l :: rest)) : Fit B rest :=
  ⟨fun m hm => h.lab m (.tail _ hm), fun m hm => h.sm m (.tail _ hm), by have := h.w; rw [wire_cons] at this; omega⟩
theorem Fit.cons {B : Int} {l : List UInt8} {rest : Lbl} (h : Fit B rest) (h1 : 1 ≤ l.length) (h2 : l.length ≤ 63) (h3 : SmL l) (h4 : wire (l :: rest) ≤ B) : Fit B (l :: rest) :=
  ⟨fun m hm => by rcases List.mem_cons.mp hm with rfl | hm; exact ⟨h1, h2⟩; exact h.lab m hm, fun m hm => by rcases List.mem_cons.mp hm with rfl | hm; exact h3; exact h.sm m hm, h4⟩
theorem nx_fit {B : Int} : ∀ {own n : Lbl}, Fit B own → nx B own = some n → Fit B n
  | [], n, _, h => by cases h
  | l :: rest, n, hf, h => by
    unfold nx at h
    have hl := hf.lab l (.head _)
    have hw := hf.w
    rw [wire_cons] at hw
    split at h
    · rename_i hc
      injection h with h; subst h
      refine hf.tail.cons (by simp) (by simp; omega) (fun c hc => ?_) hc.2
      rcases List.mem_append.mp hc with hc | hc
      · exact hf.sm l (.head _) c hc
      · simp at hc; subst hc; exact sm0
    · split at h
      · rename_i l' q
        injection h with h; subst h
        have := cut_len q
        exact hf.tail.cons this.1 (by omega) (cut_sm (hf.sm l (.head _)) q).1 (by rw [wire_cons]; omega)
      · exact nx_fit hf.tail h
theorem nx_least {B : Int} : ∀ {own : Lbl} {k : List Int}, SmN own → Vk k → (k.length : Int) ≤ B → Dg k (rowL own) → ∃ n, nx B own = some n ∧ ilt k (rowL n) = false
  | [], k, _, _, _, h => by cases h
  | l :: rest, k, hs, hv, hB, h => by
    have hsl := hs l (.head _)
    have hsr : SmN rest := fun m hm => hs m (.tail _ hm)
    rw [rowL_cons] at h
    unfold nx
    rcases h.split with h0 | ⟨w, rfl, h0⟩
    · split
      · exact ⟨_, rfl, by rw [rowL_cons]; exact (h0.appR _).ge⟩
      · split
        · exact ⟨_, rfl, by rw [rowL_cons]; exact (h0.appR _).ge⟩
        · exact nx_least hsr hv hB h0
    · have hw := hv.parse
      rcases hw.inv with e | ⟨s, v, e, h1, h2⟩
      · subst e; cases l <;> cases h0
      subst e
      have hvn := h2.nonneg
      have hlen : ((rowL rest ++ (s ++ 0 :: v)).length : Int) = wire rest + s.length + 1 + v.length := by
        have := rowL_len rest
        simp only [List.length_append, List.length_cons]; omega
      rw [hlen] at hB
      rcases labC h1.2.2 h0 with ⟨t, ht, rfl⟩ | hd
      · have htl := List.length_pos_iff.mpr ht
        have hel := ek_len l
        have h63 := h1.2.1
        rw [List.length_append] at h63 hB
        rw [if_pos ⟨by omega, by rw [wire_cons]; simp only [List.length_append, List.length_singleton]; omega⟩]
        refine ⟨_, rfl, ?_⟩
        rw [rowL_cons, ek_zero, ilt_app, List.append_assoc, ilt_app]
        exact Mine.lt_one (fun c hc => h1.2.2 c (List.mem_append_right _ hc)) ht hvn
      · split
        · refine ⟨_, rfl, ?_⟩
          rw [rowL_cons, ek_zero, ilt_app]
          exact (hd.app _ _).ge
        · obtain ⟨l', q, hq⟩ := cutD hsl h1.2.2 hd
          rw [q]
          refine ⟨_, rfl, ?_⟩
          rw [rowL_cons, ilt_app]
          exact hq v hvn
def scB (B : Int) (own : Lbl) (pf : Bool) : Option Lbl := if pf = true ∧ wire ([0] :: own) ≤ B then some ([0] :: own) else nx B own
theorem row_zero (own : Lbl) : rowL ([0] :: own) = rowL own ++ [1, 0] := by rw [rowL_cons]; rfl
theorem sc_fit {B : Int} {own n : Lbl} {pf : Bool} (hf : Fit B own) (h : scB B own pf = some n) : Fit B n := by
  unfold scB at h
  split at h
  · rename_i hc
    injection h with h; subst h
    exact hf.cons (by decide) (by decide) (fun c hc => by simp at hc; subst hc; exact sm0) hc.2
  · exact nx_fit hf h
theorem sc_up {B : Int} {own n : Lbl} {pf : Bool} (hs : SmN own) (h : scB B own pf = some n) : ilt (rowL own) (rowL n) = true := by
  unfold scB at h
  split at h
  · injection h with h; subst h
    rw [row_zero]
    have := ilt_app (rowL own) [] [1, 0]
    rw [List.append_nil] at this; rw [this]; rfl
  · exact (nx_up hs h).lt
theorem sc_least {B : Int} {own : Lbl} {k : List Int} (hs : SmN own) (hv : Vk k) (hB : (k.length : Int) ≤ B) (h : ilt (rowL own) k = true) : ∃ n, scB B own true = some n ∧ ilt k (rowL n) = false := by
  unfold scB
  rcases lt_cases h with hd | ⟨w, hw, rfl⟩
  · split
    · exact ⟨_, rfl, by rw [row_zero]; exact (hd.appR _).ge⟩
    · exact nx_least hs hv hB hd
  · have hvw := hv.parse
    have := hvw.len2 hw
    have hl := rowL_len own
    rw [List.length_append] at hB
    rw [if_pos ⟨rfl, by rw [wire_cons]; simp; omega⟩]
    refine ⟨_, rfl, ?_⟩
    rw [row_zero, ilt_app]
    exact hvw.lt_one hw
def padB (B : Int) (x : Lbl) : Lbl := (padL (B - wire x).toNat).reverse ++ x
def pnB (wo : Int) (l : List UInt8) (rest : Lbl) : Lbl := (if l.getLastD 0 = 0 then l.dropLast else padLab (decL l) (wire rest + wo)) :: rest
def pdB (wo : Int) (own : Lbl) (pf : Bool) : Lbl := match own with
  | [] => padB (255 - wo) []
  | l :: rest => if l = [0] then rest else if pf = true then padB (255 - wo) (pnB wo l rest) else pnB wo l rest
theorem padL_sm (k : Nat) : SmN (padL k) := by
  have hff : ∀ m, SmL (ff m) := fun m c hc => by rw [List.eq_of_mem_replicate hc]; exact sm255
  induction k using Nat.strongRecOn with
  | ind k ih =>
    intro b hb
    by_cases h : k > 64
    · rw [padL_big h] at hb
      rcases List.mem_cons.mp hb with rfl | hb
      · exact hff _
      · exact ih (k - 64) (by omega) b hb
    · by_cases h2 : 2 ≤ k
      · rw [padL_mid h h2] at hb
        have : b = ff (k - 1) := by simpa using hb
        subst this; exact hff _
      · rw [padL_end h h2] at hb; cases hb
theorem padB_fit {B : Int} {x : Lbl} (h : Fit B x) : Fit B (padB B x) := by
  have hw := padL_wire (B - wire x).toNat
  have := h.w
  unfold padB
  refine ⟨fun l hl => ?_, fun l hl => ?_, ?_⟩
  · rcases List.mem_append.mp hl with hl | hl
    · exact padL_mem _ l (by simpa using hl)
    · exact h.lab l hl
  · rcases List.mem_append.mp hl with hl | hl
    · exact padL_sm _ l (by simpa using hl)
    · exact h.sm l hl
  · rw [wire_app, wire_rev]; omega
theorem ek_ff (m : Nat) : ek (ff m) = List.replicate m 256 := by unfold ek ff; rw [List.map_replicate]; rfl
theorem ffTop : ∀ (m : Nat) (s z v : List Int), (∀ c ∈ s, EOk c) → s.length ≤ m → (s.length = m → ilt z v = false) → ilt (List.replicate m 256 ++ 0 :: z) (s ++ 0 :: v) = false
  | 0, [], z, v, _, _, h => by
    show ilt (0 :: z) (0 :: v) = false
    rw [ilt_cons, if_pos rfl]; exact h rfl
  | 0, _ :: _, _, _, _, h, _ => by simp at h
  | m + 1, [], z, v, _, _, _ => by
    show ilt (256 :: _) (0 :: v) = false
    rw [ilt_cons, if_neg (by decide)]; rfl
  | m + 1, c :: s, z, v, hE, hl, h => by
    have hc := (hE c (.head _)).le
    show ilt (256 :: (List.replicate m 256 ++ 0 :: z)) (c :: (s ++ 0 :: v)) = false
    rw [ilt_cons]
    split
    · exact ffTop m s z v (fun d hd => hE d (.tail _ hd)) (by simp at hl; omega) (fun e => h (by simp; exact e))
    · simp; omega
theorem padG (k : Nat) : ∀ w : List Int, Vk w → w.length ≤ k → ilt (rowL (padL k).reverse) w = false := by
  induction k using Nat.strongRecOn with
  | ind k ih =>
    intro w hv hl
    rcases hv.inv with rfl | ⟨s, v, rfl, h1, h2⟩
    · exact ilt_nil _
    have hlen : s.length + 1 + v.length ≤ k := by simp at hl; omega
    have hs1 := h1.1
    by_cases h : k > 64
    · rw [padL_big h, List.reverse_cons, rowL_app, rowL_cons, rowL_nil, ek_ff, List.nil_append, List.append_assoc]
      exact ffTop 63 s _ v h1.2.2 h1.2.1 fun e => ih (k - 64) (by omega) v h2 (by omega)
    · have h3 : 2 ≤ k := by omega
      rw [padL_mid h h3]
      show ilt (rowL [ff (k - 1)]) _ = false
      rw [rowL_cons, rowL_nil, ek_ff, List.nil_append]
      refine ffTop (k - 1) s [] v h1.2.2 (by omega) fun e => ?_
      have : v = [] := List.length_eq_zero_iff.mp (by omega)
      subst this; rfl
theorem padB_top {B : Int} {x : Lbl} {w : List Int} (hv : Vk (rowL x ++ w)) (hB : ((rowL x ++ w).length : Int) ≤ B) : ilt (rowL (padB B x)) (rowL x ++ w) = false := by
  have hl := rowL_len x
  unfold padB
  rw [rowL_app, ilt_app]
  rw [List.length_append] at hB
  exact padG _ _ hv.parse (by omega)
theorem last_dec {l : List UInt8} (h : l ≠ []) : l = l.dropLast ++ [l.getLastD 0] := by
  have h1 := List.dropLast_concat_getLast h
  rw [List.getLastD_eq_getLast?, List.getLast?_eq_some_getLast h]
  exact h1.symm
theorem last_mem {l : List UInt8} (h : l ≠ []) : l.getLastD 0 ∈ l := by
  rw [List.getLastD_eq_getLast?, List.getLast?_eq_some_getLast h]; exact List.getLast_mem h
theorem pn_fit {wo : Int} {l : List UInt8} {rest : Lbl} (hf : Fit (255 - wo) (l :: rest)) (h0 : l ≠ [0]) : Fit (255 - wo) (pnB wo l rest) := by
  have hl := hf.lab l (.head _)
  have hne : l ≠ [] := fun e => by rw [e] at hl; simp at hl
  have hs := hf.sm l (.head _)
  have hw := hf.w
  rw [wire_cons] at hw
  have hdec := last_dec hne
  have hd : l.dropLast.length + 1 = l.length := by rw [List.length_dropLast]; omega
  unfold pnB
  split
  · rename_i hz
    rw [hz] at hdec
    refine hf.tail.cons ?_ (by omega) (fun c hc => hs c (List.dropLast_subset _ hc)) (by rw [wire_cons]; omega)
    rcases Nat.eq_zero_or_pos l.dropLast.length with q | q
    · rw [List.length_eq_zero_iff.mp q] at hdec
      exact (h0 hdec).elim
    · exact q
  · rename_i hz
    have hdl := decL_len hne
    have h1 := padLab_len (l := decL l) (k := wire rest + wo) (by omega)
    have h2 := padLab_wire (l := decL l) (k := wire rest + wo) (by omega)
    refine hf.tail.cons (by omega) h1.2 (fun c hc => ?_) (by rw [wire_cons]; omega)
    have hsd : SmL (decL l) := fun c hc => by
      unfold decL at hc
      rcases List.mem_append.mp hc with hc | hc
      · exact hs c (List.dropLast_subset _ hc)
      · have hc : c = decO (l.getLastD 0) := List.mem_singleton.mp hc
        subst hc
        exact (decO_sm (hs _ (last_mem hne)) hz).1
    unfold padLab at hc
    split at hc
    · exact hsd c hc
    · rcases List.mem_append.mp hc with hc | hc
      · exact hsd c hc
      · rw [List.eq_of_mem_replicate hc]; exact sm255
theorem pn_nx {wo : Int} {l : List UInt8} {rest : Lbl} (hf : Fit (255 - wo) (l :: rest)) (h0 : l ≠ [0]) : nx (255 - wo) (pnB wo l rest) = some (l :: rest) := by
  have hl := hf.lab l (.head _)
  have hne : l ≠ [] := fun e => by rw [e] at hl; simp at hl
  have hs := hf.sm l (.head _)
  have hw := hf.w
  have hdec := last_dec hne
  have hd : l.dropLast.length + 1 = l.length := by rw [List.length_dropLast]; omega
  unfold pnB nx
  by_cases hz : l.getLastD 0 = 0
  · rw [if_pos hz]
    rw [hz] at hdec
    rw [← hdec, if_pos ⟨by omega, hw⟩]
  · rw [if_neg hz]
    have hdl := decL_len hne
    obtain ⟨d1, d2, d3⟩ := decO_sm (hs _ (last_mem hne)) hz
    obtain ⟨k, hk, hno⟩ : ∃ k, padLab (decL l) (wire rest + wo) = decL l ++ ff k ∧ ¬ ((padLab (decL l) (wire rest + wo)).length < 63 ∧ wire ((padLab (decL l) (wire rest + wo) ++ [0]) :: rest) ≤ 255 - wo) := by
      unfold padLab
      split
      · rename_i hc
        have hc : 255 - (wire rest + wo) - ((decL l).length : Int) - 1 ≤ 0 := by simpa using hc
        refine ⟨0, by simp, fun ⟨_, h2⟩ => ?_⟩
        rw [wire_cons] at h2; simp only [List.length_append, List.length_singleton] at h2; omega
      · refine ⟨_, rfl, fun ⟨h1, h2⟩ => ?_⟩
        rw [wire_cons] at h2; simp only [List.length_append, List.length_singleton, List.length_replicate] at h1 h2; omega
    rw [if_neg hno, hk]
    have hcut : cutL (decL l ++ ff k) = some l := by
      have hat : (decL l ++ ff k)[l.dropLast.length]? = some (decO (l.getLastD 0)) := by
        unfold decL
        rw [List.append_assoc, List.getElem?_append_right (Nat.le_refl _)]; simp
      rw [cut_at hat d2 (fun d hd => ?_), d3]
      · unfold decL
        rw [List.append_assoc, List.take_left' rfl, ← hdec]
      · unfold decL at hd
        rw [List.append_assoc, ← List.drop_drop, List.drop_left' rfl] at hd
        simp at hd; exact hd.2
    rw [hcut]
theorem pd_fit {wo : Int} {own : Lbl} {pf : Bool} (hf : Fit (255 - wo) own) : Fit (255 - wo) (pdB wo own pf) := by
  unfold pdB
  split
  · exact padB_fit hf
  · split
    · exact hf.tail
    · rename_i h0
      have := pn_fit hf h0
      split
      · exact padB_fit this
      · exact this
theorem pad_row {B : Int} {x : Lbl} : ∃ z, rowL (padB B x) = rowL x ++ z := ⟨_, by unfold padB; rw [rowL_app]⟩
theorem pd_down {wo : Int} {own : Lbl} {pf : Bool} (hf : Fit (255 - wo) own) (hn : own ≠ []) : ilt (rowL (pdB wo own pf)) (rowL own) = true := by
  cases own with
  | nil => exact (hn rfl).elim
  | cons l rest =>
    unfold pdB
    dsimp only
    split
    · rename_i h0; subst h0
      rw [row_zero]
      have := ilt_app (rowL rest) [] [1, 0]
      rw [List.append_nil] at this; rw [this]; rfl
    · rename_i h0
      have hd := nx_up (pn_fit hf h0).sm (pn_nx hf h0)
      split
      · obtain ⟨z, hz⟩ := pad_row (B := 255 - wo) (x := pnB wo l rest)
        rw [hz]; exact (hd.appR z).lt
      · exact hd.lt
theorem pd_least {wo : Int} {own : Lbl} {k : List Int} (hf : Fit (255 - wo) own) (hv : Vk k) (hB : (k.length : Int) ≤ 255 - wo) (h : ilt (rowL (pdB wo own true)) k = true) : own ≠ [] ∧ ilt k (rowL own) = false := by
  cases own with
  | nil =>
    exfalso
    have := padB_top (B := 255 - wo) (x := []) (w := k) hv hB
    rw [rowL_nil, List.nil_append] at this
    unfold pdB at h
    dsimp only at h
    rw [this] at h; cases h
  | cons l rest =>
    refine ⟨by simp, ?_⟩
    unfold pdB at h
    dsimp only at h
    split at h
    · rename_i h0; subst h0
      obtain ⟨n, h1, h2⟩ := sc_least hf.tail.sm hv hB h
      unfold scB at h1
      rw [if_pos ⟨rfl, hf.w⟩] at h1
      injection h1 with h1; subst h1; exact h2
    · rename_i h0
      have hp := pn_fit hf h0
      have hx := pn_nx hf h0
      rw [if_pos rfl] at h
      obtain ⟨z, hz⟩ := pad_row (B := 255 - wo) (x := pnB wo l rest)
      rcases cmp4 k (rowL (pnB wo l rest)) with hd | hd | ⟨w, rfl⟩ | ⟨w, e⟩
      · obtain ⟨n, h1, h2⟩ := nx_least hp.sm hv hB hd
        rw [hx] at h1; injection h1 with h1; subst h1; exact h2
      · rw [hz, (hd.appL z).ge] at h; cases h
      · rw [padB_top hv hB] at h; cases h
      · rw [hz, e, List.append_assoc, ilt_ext] at h; cases h
theorem pdF_kind {wo : Int} {l : List UInt8} {rest : Lbl} : pdB wo (l :: rest) false = rest ∨ ∃ m, pdB wo (l :: rest) false = m :: rest := by
  unfold pdB
  dsimp only
  split
  · exact .inl rfl
  · exact .inr ⟨_, by rw [if_neg (by decide)]; rfl⟩
theorem pdF_least {wo : Int} {l : List UInt8} {rest : Lbl} {k : List Int} (hf : Fit (255 - wo) (l :: rest)) (hv : Vk k) (hB : (k.length : Int) ≤ 255 - wo) (h : ilt (rowL (pdB wo (l :: rest) false)) k = true) (hk : k = rowL rest ∨ ∃ m, k = rowL rest ++ (ek m ++ [0])) : ilt k (rowL (l :: rest)) = false := by
  unfold pdB at h
  dsimp only at h
  split at h
  · rename_i h0; subst h0
    obtain ⟨n, h1, h2⟩ := sc_least hf.tail.sm hv hB h
    unfold scB at h1
    rw [if_pos ⟨rfl, hf.w⟩] at h1
    injection h1 with h1; subst h1; exact h2
  · rename_i h0
    rw [if_neg (by decide)] at h
    have hp := pn_fit hf h0
    have hx := pn_nx hf h0
    rcases lt_cases h with hd | ⟨w, hw, e⟩
    · obtain ⟨n, h1, h2⟩ := nx_least hp.sm hv hB hd
      rw [hx] at h1; injection h1 with h1; subst h1; exact h2
    · exfalso
      unfold pnB at e
      rw [rowL_cons, List.append_assoc] at e
      rcases hk with hk | ⟨m, hk⟩
      · rw [hk] at e
        have := congrArg List.length e
        simp at this
      · rw [hk] at e
        have e := List.append_cancel_left e
        rw [List.append_assoc] at e
        have := zsplit (fun c hc => ek_ok hc) (fun c hc => ek_ok hc) e
        exact hw this.2.symm
theorem Fit.vk {B : Int} {own : Lbl} (h : Fit B own) : Vk (rowL own) ∧ ((rowL own).length : Int) ≤ B := ⟨vk_row h.lab, by rw [rowL_len]; exact h.w⟩
theorem back_some {wo : Int} {own n : Lbl} (hf : Fit (255 - wo) own) (h : scB (255 - wo) own true = some n) : rowL (pdB wo n true) = rowL own := by
  have hn := sc_fit hf h
  have hup := sc_up hf.sm h
  have hne : n ≠ [] := fun e => by subst e; rw [rowL_nil, ilt_nil] at hup; cases hup
  have hp := pd_fit (pf := true) hn
  refine ilt_tri _ _ ?_ ?_
  · cases q : ilt (rowL (pdB wo n true)) (rowL own) with
    | false => rfl
    | true =>
      have := (pd_least hn hf.vk.1 hf.vk.2 q).2
      rw [hup] at this; cases this
  · cases q : ilt (rowL own) (rowL (pdB wo n true)) with
    | false => rfl
    | true =>
      obtain ⟨n', h1, h2⟩ := sc_least hf.sm hp.vk.1 hp.vk.2 q
      rw [h] at h1; injection h1 with h1; subst h1
      rw [pd_down hn hne] at h2; cases h2
theorem back_none {wo : Int} {own : Lbl} (hf : Fit (255 - wo) own) (h : scB (255 - wo) own true = none) : rowL (pdB wo [] true) = rowL own := by
  have h0 : Fit (255 - wo) [] := ⟨fun _ h => (nomatch h), fun _ h => (nomatch h), by have := hf.w; have := wire_nonneg own; show wire [] ≤ _; simp [wire]; omega⟩
  have hp := pd_fit (pf := true) h0
  refine ilt_tri _ _ ?_ ?_
  · cases q : ilt (rowL (pdB wo [] true)) (rowL own) with
    | false => rfl
    | true => exact ((pd_least h0 hf.vk.1 hf.vk.2 q).1 rfl).elim
  · cases q : ilt (rowL own) (rowL (pdB wo [] true)) with
    | false => rfl
    | true =>
      obtain ⟨n', h1, h2⟩ := sc_least hf.sm hp.vk.1 hp.vk.2 q
      rw [h] at h1; cases h1
theorem forth_nil {wo : Int} (h0 : Fit (255 - wo) []) : scB (255 - wo) (pdB wo [] true) true = none := by
  have hp := pd_fit (pf := true) h0
  cases q : scB (255 - wo) (pdB wo [] true) true with
  | none => rfl
  | some n =>
    have hn := sc_fit hp q
    exact ((pd_least h0 hn.vk.1 hn.vk.2 (sc_up hp.sm q)).1 rfl).elim
theorem forth_cons {wo : Int} {own : Lbl} (hf : Fit (255 - wo) own) (hne : own ≠ []) : ∃ n, scB (255 - wo) (pdB wo own true) true = some n ∧ rowL n = rowL own := by
  have hp := pd_fit (pf := true) hf
  have hd := pd_down (pf := true) hf hne
  obtain ⟨n, h1, h2⟩ := sc_least hp.sm hf.vk.1 hf.vk.2 hd
  refine ⟨n, h1, ilt_tri _ _ ?_ h2⟩
  have hn := sc_fit hp h1
  exact (pd_least hf hn.vk.1 hn.vk.2 (sc_up hp.sm h1)).2
def Un (ol x m : Lbl) : Prop := ∃ org, x = m ++ org ∧ org.map blow = ol.map blow
theorem toLower_idem (c : UInt8) : keyI (Builtin.Bytes.toLower c) = keyI c := u8all (P := fun c => keyI (Builtin.Bytes.toLower c) = keyI c) (by decide +kernel) c
theorem toLower_sm (c : UInt8) : SmO (Builtin.Bytes.toLower c) := u8all (P := fun c => ¬ (65 ≤ (Builtin.Bytes.toLower c).toNat ∧ (Builtin.Bytes.toLower c).toNat ≤ 90)) (by decide +kernel) c
theorem toLower_inc (c : UInt8) : Builtin.Bytes.toLower (c + 1) ≠ Builtin.Bytes.toLower c := u8all (P := fun c => Builtin.Bytes.toLower (c + 1) ≠ Builtin.Bytes.toLower c) (by decide +kernel) c
theorem blow_sm (l : List UInt8) : SmL (blow l) := fun c hc => by
  unfold blow at hc
  obtain ⟨d, _, rfl⟩ := List.mem_map.mp hc; exact toLower_sm d
theorem ek_blow (l : List UInt8) : ek (blow l) = ek l := by
  unfold ek blow; rw [List.map_map]; exact List.map_congr_left fun c _ => toLower_idem c
theorem row_blow : ∀ ls : Lbl, rowL (ls.map blow) = rowL ls
  | [] => rfl
  | l :: r => by rw [List.map_cons, rowL_cons, rowL_cons, row_blow r, ek_blow]
theorem Un.row {ol x m : Lbl} (h : Un ol x m) : rowL x = rowL ol ++ rowL m := by
  obtain ⟨org, rfl, e⟩ := h
  rw [rowL_app, ← row_blow org, e, row_blow]
theorem Un.wire {ol x m : Lbl} (h : Un ol x m) : Mine.wire x = Mine.wire m + Mine.wire ol := by
  obtain ⟨org, rfl, e⟩ := h
  rw [wire_app, wire_blow e]
theorem blow_length {a b : Lbl} (e : a.map blow = b.map blow) : a.length = b.length := by
  have := congrArg List.length e; simpa using this
theorem Un.len {ol x m : Lbl} (h : Un ol x m) : x.length = m.length + ol.length := by
  obtain ⟨org, rfl, e⟩ := h
  rw [List.length_append, blow_length e]
theorem ownS_app (m org ol : Lbl) (h : org.length = ol.length) : ownS (m ++ org) ol = m := by
  unfold ownS
  have : (((m ++ org).length : Int) - (ol.length : Int)) = ((m.length : Nat) : Int) := by rw [List.length_append]; omega
  rw [this, slc_lo _ _ (by simp)]; simp
theorem Un.own {ol x m : Lbl} (h : Un ol x m) : ownS x ol = m := by
  obtain ⟨org, rfl, e⟩ := h
  exact ownS_app _ _ _ (blow_length e)
theorem Un.self (ol : Lbl) : Un ol ol [] := ⟨ol, rfl, rfl⟩
theorem Un.tail {ol x m : Lbl} {l : List UInt8} (h : Un ol x (l :: m)) : Un ol (tl1 x) m := by
  obtain ⟨org, rfl, e⟩ := h
  refine ⟨org, ?_, e⟩
  unfold tl1
  rw [show (some (1 : Int)) = some ((1 : Nat) : Int) from rfl, slc_hi _ _ (by simp)]; rfl
theorem good_org {ol org : Lbl} (go : Good ol) (e : org.map blow = ol.map blow) : Good org := by
  have g := go.map (f := blow) blow_len
  rw [← e] at g
  refine ⟨fun b hb => ?_, fun b hb => ?_, by rw [wire_blow e]; exact go.small⟩
  · have : blow b ∈ (org.map blow).dropLast := by
      rw [List.dropLast_eq_take, List.length_map, ← List.map_take, ← List.dropLast_eq_take]
      exact List.mem_map.mpr ⟨b, hb, rfl⟩
    have := g.init _ this
    rwa [blow_len] at this
  · have h := g.last (blow b) (by rw [List.getLast?_map, hb]; rfl)
    rwa [blow_len] at h
theorem good_pre {m org : Lbl} (h : LabOk m) (hw : wire (m ++ org) ≤ 255) (g : Good org) : Good (m ++ org) := by
  induction m with
  | nil => exact g
  | cons l r ih =>
    have hl := h l (.head _)
    rw [List.cons_append, wire_cons] at hw
    exact (ih (fun m hm => h m (.tail _ hm)) (by omega)).cons hl.1 hl.2 (by rw [wire_cons]; exact hw)
theorem Un.good {ol x m : Lbl} (h : Un ol x m) (go : Good ol) (hl : LabOk m) (hw : Mine.wire m ≤ 255 - Mine.wire ol) : Good x := by
  have hx := h.wire
  obtain ⟨org, rfl, e⟩ := h
  exact good_pre hl (by omega) (good_org go e)
theorem absL_app {m org : Lbl} (h : org ≠ []) : absL (m ++ org) = absL org := by
  unfold absL; rw [List.getLast?_append]
  cases q : org.getLast? with
  | none => rw [List.getLast?_eq_none_iff] at q; exact (h q).elim
  | some b => simp
theorem Un.abs {ol x m : Lbl} (h : Un ol x m) (ho : absL ol = true) : absL x = true := by
  obtain ⟨org, rfl, e⟩ := h
  have hne : org ≠ [] := fun q => by
    subst q
    have := blow_length e
    exact absL_ne ho (List.length_eq_zero_iff.mp (by simpa using this.symm))
  rw [absL_app hne, ← absL_blow org, e, absL_blow, ho]
theorem Un.under {ol x m : Lbl} (h : Un ol x m) (ho : absL ol = true) : underB x ol = true := by
  have ha := h.abs ho
  have hlen := h.len
  obtain ⟨org, rfl, e⟩ := h
  unfold underB
  rw [if_neg (by rw [ha, ho]; simp only [bne_self_eq_false, Bool.or_false, decide_eq_true_eq]; omega)]
  have : (((m ++ org).length : Int) - (ol.length : Int)) = ((m.length : Nat) : Int) := by omega
  rw [this, slc_hi _ _ (by simp)]
  simp [e]
theorem Un.sub {ol x m : Lbl} (h : Un ol x m) (ho : absL ol = true) : subB x ol = true := by rw [subB_eq]; exact h.under ho
theorem lawful_good {x : Lbl} (g : Good x) (ha : absL x = true) : lawfulB x = true := by
  unfold lawfulB
  rw [if_pos]
  · rw [← Bool.and_assoc, absL_eq, ha]; simpa using g.small
  · rw [slc_init, List.all_eq_true]
    intro b hb
    have := g.init b hb
    unfold okLen; simp; omega
theorem eqB_un {ol x m : Lbl} (h : Un ol x m) : eqB x ol = decide (m = []) := by
  have hlen := h.len
  unfold eqB
  by_cases q : m = []
  · subst q
    obtain ⟨org, rfl, e⟩ := h
    rw [decide_eq_true ((fc_zero _ _).mpr e)]; simp
  · rw [decide_eq_false q, decide_eq_false]
    intro e
    have := blow_length ((fc_zero _ _).mp e)
    have := List.length_pos_iff.mpr q
    omega
def mvO (wo : Int) (m : Lbl) (on pf : Bool) : Lbl := if on = true then (scB (255 - wo) m pf).getD [] else pdB wo m pf
theorem nxtA_un {ol org : Lbl} (e : org.map blow = ol.map blow) : ∀ {m : Lbl}, nxtA ol (m ++ org) = match nx (255 - wire ol) m with
    | some n => n ++ org
    | none => ol
  | [] => by
    have := eqB_un (ol := ol) (x := org) (m := []) ⟨org, rfl, e⟩
    exact nxtA_eq (by rw [List.nil_append, this]; rfl)
  | l :: r => by
    have hq := eqB_un (ol := ol) (x := (l :: r) ++ org) (m := l :: r) ⟨org, rfl, e⟩
    have hw := wire_blow e
    rw [List.cons_append] at hq ⊢
    unfold nxtA nx
    rw [if_neg (by rw [hq]; simp)]
    have hc : (l.length < 63 ∧ wire ((l ++ [0]) :: (r ++ org)) ≤ 255) ↔ (l.length < 63 ∧ wire ((l ++ [0]) :: r) ≤ 255 - wire ol) := by
      rw [wire_cons, wire_cons, wire_app]; omega
    by_cases h : l.length < 63 ∧ wire ((l ++ [0]) :: r) ≤ 255 - wire ol
    · rw [if_pos (hc.mpr h), if_pos h]; rfl
    · rw [if_neg (fun q => h (hc.mp q)), if_neg h]
      cases cutL l with
      | some l' => rfl
      | none => exact nxtA_un e
theorem padN_un {ol org m : Lbl} (e : org.map blow = ol.map blow) : padN (m ++ org) = padB (255 - wire ol) m ++ org := by
  unfold padN padB
  have hw := wire_blow e
  have : (255 - wire (m ++ org)) = (255 - wire ol - wire m) := by rw [wire_app]; omega
  rw [this, List.append_assoc]
theorem move_un {ol x m : Lbl} (on pf : Bool) (h : Un ol x m) : Un ol (moveA on x ol pf) (mvO (wire ol) m on pf) := by
  have hq := eqB_un h
  obtain ⟨org, rfl, e⟩ := h
  have hw := wire_blow e
  unfold moveA mvO
  cases on with
  | true =>
    rw [if_pos rfl, if_pos rfl]
    unfold succA scB
    by_cases hc : pf = true ∧ wire ([0] :: m) ≤ 255 - wire ol
    · have hc' : pf = true ∧ wire ([0] :: (m ++ org)) ≤ 255 := ⟨hc.1, by have := hc.2; rw [wire_cons] at this; rw [wire_cons, wire_app]; omega⟩
      rw [if_pos hc, if_pos hc']
      exact ⟨org, rfl, e⟩
    · have hc' : ¬ (pf = true ∧ wire ([0] :: (m ++ org)) ≤ 255) := fun q => hc ⟨q.1, by have := q.2; rw [wire_cons, wire_app] at this; rw [wire_cons]; omega⟩
      rw [if_neg hc, if_neg hc', nxtA_un e]
      cases nx (255 - wire ol) m with
      | some n => exact ⟨org, rfl, e⟩
      | none => exact Un.self ol
  | false =>
    rw [if_neg (by decide), if_neg (by decide)]
    unfold predA
    rw [hq]
    cases m with
    | nil =>
      rw [if_pos (by decide), padN_un e]
      exact ⟨org, rfl, e⟩
    | cons l r =>
      rw [if_neg (by simp)]
      show Un ol (if l = [0] then r ++ org else if pf = true then padN (predN l (r ++ org)) else predN l (r ++ org)) _
      have hpn : predN l (r ++ org) = pnB (wire ol) l r ++ org := by
        unfold predN pnB
        have : wire (r ++ org) = wire r + wire ol := by rw [wire_app, hw]
        rw [this]; rfl
      unfold pdB
      dsimp only
      rw [hpn]
      split
      · exact ⟨org, rfl, e⟩
      · split
        · rw [padN_un e]; exact ⟨org, rfl, e⟩
        · exact ⟨org, rfl, e⟩
theorem hr_un {ol x m : Lbl} (on pf : Bool) (h : Un ol x m) (ho : absL ol = true) : hrR on x ol pf = .ok (.name (moveA on x ol pf)) := by
  unfold hrR
  rw [if_neg (by rw [ho]; decide), if_neg (by rw [h.abs ho]; decide), if_neg (by rw [h.sub ho]; decide)]
theorem rel_un {ol x m : Lbl} (h : Un ol x m) (ho : absL ol = true) : relL x ol = m := by
  have hlen := h.len
  rw [relL_eq (List.length_pos_iff.mpr (absL_ne ho)), lessL_eq, if_pos (h.under ho)]
  obtain ⟨org, rfl, e⟩ := h
  have : (m ++ org).length - ol.length = m.length := by omega
  rw [this]; simp
theorem abs_lab {m : Lbl} (h : LabOk m) : absL m = false := by
  rw [Bool.eq_false_iff]; intro q
  unfold absL at q
  have q : m.getLast? = some [] := by simpa using q
  have := h _ (List.mem_of_getLast? q)
  simp at this
theorem hr_rel {ol m : Lbl} (on pf : Bool) (hl : LabOk m) (hw : wire m ≤ 255 - wire ol) (ho : absL ol = true) : hrR on m ol pf = .ok (.name (mvO (wire ol) m on pf)) := by
  unfold hrR
  have hu : Un ol (m ++ ol) m := ⟨ol, rfl, rfl⟩
  rw [if_neg (by rw [ho]; decide), if_pos (abs_lab hl), if_neg (by rw [wire_app]; omega), rel_un (move_un on pf hu) ho]
theorem mv_fit {wo : Int} {m : Lbl} {on pf : Bool} (h : Fit (255 - wo) m) : Fit (255 - wo) (mvO wo m on pf) := by
  unfold mvO
  split
  · cases q : scB (255 - wo) m pf with
    | some n => exact sc_fit h q
    | none => exact ⟨fun _ h => (nomatch h), fun _ h => (nomatch h), by have := h.w; have := wire_nonneg m; show wire [] ≤ _; simp [wire]; omega⟩
  · exact pd_fit h
theorem row_ne {m : Lbl} (h : rowL m = []) : m = [] := by
  cases m with
  | nil => rfl
  | cons l r => rw [rowL_cons] at h; simp at h
theorem pre_self {k x : List Int} (h : k ++ x = k) : x = [] := by
  have := congrArg List.length h
  simp at this; exact this
theorem pre1_app (k x y : List Int) : pre1 (k ++ x) (k ++ y).length = k ++ x.take y.length := by
  rw [pre1_eq, List.take_append, List.take_of_length_le (by simp)]; simp
structure Nm (ol b m : Lbl) : Prop where
  u : Un ol b m
  l : LabOk m
  w : wire m ≤ 255 - wire ol
theorem Nm.vk {ol b m : Lbl} (h : Nm ol b m) : Vk (rowL m) ∧ ((rowL m).length : Int) ≤ 255 - wire ol := ⟨vk_row h.l, by rw [rowL_len]; exact h.w⟩
theorem Fit.nm {ol b m : Lbl} (h : Fit (255 - wire ol) m) (u : Un ol b m) : Nm ol b m := ⟨u, h.lab, h.w⟩
section
variable {al ol own : Lbl}
theorem bok {b m : Lbl} (ho : absL ol = true) (hu : Un ol al own) (hf : Fit (255 - wire ol) own) (hb : Nm ol b m) :
    BOk (rowL ol) (rowL al) (rowL (moveA true al ol true)) (rowL (moveA false al ol true)) (rowL (moveA true al ol false)) (rowL (moveA false al ol false)) (rowL (tl1 al)) al.length b := by
  have us := move_un true true hu
  have up := move_un false true hu
  have ut := move_un true false hu
  have uq := move_un false false hu
  obtain ⟨hv, hB⟩ := hb.vk
  have hbw := hb.u.wire
  have hbl := hb.u.len
  have hal := hu.len
  refine ⟨by have := hb.w; omega, ?_, ?_, ?_, ?_⟩
  · rintro ⟨h1, h2⟩
    rw [hu.row, hb.u.row, ilt_app] at h1
    obtain ⟨n, q1, q2⟩ := sc_least hf.sm hv hB h1
    have hup := sc_up hf.sm q1
    have e : mvO (wire ol) own true true = n := by unfold mvO; rw [if_pos rfl, q1]; rfl
    rw [us.row, e, hb.u.row, ilt_app, q2] at h2
    rcases h2 with h2 | h2
    · rw [pre_self h2, ilt_nil] at hup; cases hup
    · cases h2
  · rintro ⟨h1, h2⟩
    have e : mvO (wire ol) own false true = pdB (wire ol) own true := rfl
    rw [up.row, e, hb.u.row, ilt_app] at h1
    obtain ⟨q1, q2⟩ := pd_least hf hv hB h1
    rw [hu.row, hb.u.row, ilt_app, q2] at h2
    rcases h2 with h2 | h2
    · exact q1 (row_ne (pre_self h2))
    · cases h2
  · rintro ⟨h0, h1, h2⟩
    rw [hu.row, hb.u.row, pre1_app] at h0
    rw [hu.row, hb.u.row, ilt_app] at h1
    have hd := dg_of h1 fun e => h0 (by rw [e])
    obtain ⟨n, q1, q2⟩ := nx_least hf.sm hv hB hd
    have hup := (nx_up hf.sm q1).lt
    have e : mvO (wire ol) own true false = n := by unfold mvO scB; rw [if_pos rfl, if_neg (by simp), q1]; rfl
    rw [ut.row, e, hb.u.row, ilt_app, q2] at h2
    rcases h2 with h2 | h2
    · rw [pre_self h2, ilt_nil] at hup; cases hup
    · cases h2
  · rintro ⟨h0, h1, h2, h3⟩
    have e : mvO (wire ol) own false false = pdB (wire ol) own false := rfl
    rw [uq.row, e, hb.u.row, ilt_app] at h1
    rw [hu.row, hb.u.row, ilt_app] at h2
    cases own with
    | nil => exact h0 (by rw [hu.row, rowL_nil, List.append_nil])
    | cons l rest =>
      have hut := hu.tail
      rw [hut.row] at h3
      have := pdF_least hf hv hB h1 (by
        rcases h3 with h3 | ⟨h3, h4⟩
        · rw [hb.u.row] at h3; exact .inl (List.append_cancel_left h3)
        · cases m with
          | nil => simp at hbl hal; omega
          | cons m0 r =>
            rw [hb.u.tail.row] at h4
            exact .inr ⟨m0, by rw [rowL_cons, List.append_cancel_left h4]⟩)
      rw [this] at h2; cases h2
theorem nm_name {b m : Lbl} {v low : Int} (go : Good ol) (hb : Nm ol b m) (h0 : 0 ≤ low) (h1 : low < 256) : ∃ m', Nm ol (nameL v b low) m' := by
  have hbw := hb.u.wire
  have hw := hb.w
  obtain ⟨⟨own', e, hl⟩, hw'⟩ := nameL_grown (v := v) (low := low) (tail := b) (by omega) h0 h1
  obtain ⟨org, rfl, eo⟩ := hb.u
  rw [e] at hw' ⊢
  refine ⟨own' ++ m, ⟨org, by rw [List.append_assoc], eo⟩, fun l hl' => ?_, ?_⟩
  · rcases List.mem_append.mp hl' with h | h
    · exact hl l h
    · exact hb.l l h
  · have := wire_blow eo
    rw [← List.append_assoc, wire_app] at hw'; omega
theorem nm_turn {v : Int} {names : List Lbl} (ho : absL ol = true) (h5 : names.length = 5) (hn : ∀ b ∈ names, ∃ m, Nm ol b m) : ∃ m, Nm ol (turnL v names ol) m := by
  unfold turnL
  dsimp only
  split
  · rename_i h
    generalize ownT ((v.fdiv 5).fmod 10) ((v.fdiv 5).fdiv 10) (ownS (names.getD (v.fmod 5).toNat []) ol) = T at h
    unfold lawfulB at h
    split at h
    · rename_i ha
      rw [slc_init, List.all_eq_true, List.dropLast_append_of_ne_nil (absL_ne ho)] at ha
      have hw : wire (T ++ ol) ≤ 255 := by simp at h; exact h.2.2
      refine ⟨T, ⟨ol, rfl, rfl⟩, fun l hl => ?_, by rw [wire_app] at hw; omega⟩
      have := ha l (List.mem_append_left _ hl)
      unfold okLen at this; simp at this; omega
    · cases h
  · have m0 := Int.fmod_nonneg_of_pos v (b := 5) (by decide)
    have m1 := Int.fmod_lt_of_pos v (b := 5) (by decide)
    have hi : (v.fmod 5).toNat < names.length := by omega
    rw [List.getD_eq_getElem?_getD, List.getElem?_eq_getElem hi]
    exact hn _ (List.getElem_mem hi)
theorem dropLast_abs (go : Good ol) (ho : absL ol = true) : absL ol.dropLast = false := by
  rw [List.dropLast_eq_take]
  exact abs_take go (by have := List.length_pos_iff.mpr (absL_ne ho); omega)
theorem ref94 {on pf : Bool} {a o : Lbl} (h : absL o = false) : refI (hrR on a o pf) = 1 := by
  unfold hrR; rw [if_pos h]; rfl
theorem ref154 {on pf : Bool} {a o : Lbl} (h : absL o = true) (ha : absL a = true) (hs : subB a o = false) : refI (hrR on a o pf) = 2 := by
  unfold hrR; rw [if_neg (by rw [h]; decide), if_neg (by rw [ha]; decide), if_pos hs]; rfl
theorem ref106 {on pf : Bool} {a o : Lbl} (h : absL o = true) (ha : absL a = false) (hs : 255 < wire (a ++ o)) : refI (hrR on a o pf) = 3 := by
  unfold hrR; rw [if_neg (by rw [h]; decide), if_pos ha, if_pos hs]; rfl
theorem bump_eq {l : List UInt8} (h : l ≠ []) : bump l = l.dropLast ++ [l.getLastD 0 + 1] := by
  have hdec := last_dec h
  have hp := List.length_pos_iff.mpr h
  have hb : bints l = bints l.dropLast ++ [((l.getLastD 0).toNat : Int)] := by
    conv => lhs; rw [hdec]
    unfold bints; simp
  have hbl : (bints l).length = l.length := by unfold bints; simp
  have hbd : (bints l.dropLast).length = l.length - 1 := by unfold bints; simp
  have hlast : lastI (bints l) = ((l.getLastD 0).toNat : Int) := by
    unfold lastI
    rw [hbl, hb, List.getD_eq_getElem?_getD, List.getElem?_append_right (by omega), hbd]; simp
  unfold bump bumpI
  rw [hlast, hbl, hb, List.set_append_right _ _ (by omega), hbd]
  simp only [Nat.sub_self, List.set_cons_zero]
  unfold bytesOf bints
  rw [List.map_append, List.map_map]
  congr 1
  · conv => rhs; rw [← List.map_id l.dropLast]
    exact List.map_congr_left fun c _ => by simp
  · exact congrArg (fun c => [c]) (u8all (P := fun c => (((c.toNat : Int) + 1).fmod 256).toNat.toUInt8 = c + 1) (by decide +kernel) (l.getLastD 0))
theorem refOk (go : Good ol) (ho : absL ol = true) (hu : Un ol al own) (hf : Fit (255 - wire ol) own) : RefOk al ol := by
  have ga := hu.good go hf.lab hf.w
  have hd := dropLast_abs go ho
  have gd : Good ol.dropLast := by rw [List.dropLast_eq_take]; exact go.take _
  have gw : Good own := by
    have := good_pre (m := own) (org := []) hf.lab (by rw [List.append_nil]; have := hf.w; have := wire_nonneg ol; omega) good_nil
    rwa [List.append_nil] at this
  have parts : 1 < ol.length → ∃ l rest, ol = l :: rest ∧ rest ≠ [] ∧ 1 ≤ l.length ∧ l.length ≤ 63 := fun h => by
    match ol, h, go with
    | l :: m :: r, _, go => exact ⟨l, m :: r, rfl, by simp, go.init l (by simp)⟩
  have habs : ∀ {l : List UInt8} {rest : Lbl}, ol = l :: rest → rest ≠ [] → absL rest = true := fun {l rest} e hr => by
    have := absL_app (m := [l]) hr
    rw [← this, show [l] ++ rest = ol from e.symm]; exact ho
  refine ⟨⟨ga, gd, fun on pf => ref94 hd⟩, ⟨by rw [hu.own]; exact gw, gd, fun on pf => ref94 hd⟩, go, fun h => ?_, fun h => ?_, fun h => ?_, fun h => ?_⟩
  · obtain ⟨l, rest, e, hr, h1, h2⟩ := parts h
    subst e
    intro q; have q : l = [] := q
    subst q; simp at h1
  · obtain ⟨l, rest, e, hr, h1, h2⟩ := parts h
    have hra := habs e hr
    refine ⟨go.drop 1, go, fun on pf => ref154 ho ?_ ?_⟩
    · subst e; exact hra
    · rw [subB_eq]; unfold underB
      rw [if_pos]
      have : (ol.drop 1).length < ol.length := by rw [List.length_drop]; omega
      rw [decide_eq_true (by omega : ((ol.drop 1).length : Int) < (ol.length : Int)), Bool.true_or]
  · obtain ⟨l, rest, e, hr, h1, h2⟩ := parts h
    have hra := habs e hr
    have hne : l ≠ [] := fun q => by subst q; simp at h1
    have hbe := bump_eq hne
    have hbl : (bump l).length = l.length := by rw [hbe]; simp; omega
    subst e
    have hw := go.small
    rw [wire_cons] at hw
    have gr : Good rest := go.drop 1
    refine ⟨gr.cons (by show 1 ≤ (bump l).length; omega) (by show (bump l).length ≤ 63; omega) (by show wire (bump l :: rest) ≤ 255; rw [wire_cons]; omega), go, fun on pf => ref154 ho ?_ ?_⟩
    · show absL (bump l :: rest) = true
      have := absL_app (m := [bump l]) hr
      rw [← hra]; exact this
    · show subB (bump l :: rest) (l :: rest) = false
      rw [subB_eq, Bool.eq_false_iff]
      intro q
      have := (under_spec q).2.2
      simp at this
      have hb : blow (bump l) = blow l := this
      rw [hbe] at hb
      have hdec := last_dec hne
      have hb2 : blow (l.dropLast ++ [l.getLastD 0 + 1]) = blow (l.dropLast ++ [l.getLastD 0]) := by rw [hb, ← hdec]
      unfold blow at hb2
      rw [List.map_append, List.map_append] at hb2
      have := List.append_cancel_left hb2
      simp only [List.map_cons, List.map_nil, List.cons.injEq, and_true] at this
      exact toLower_inc _ this
  · refine ⟨by rw [hu.own]; exact gw, ga, fun on pf => ?_⟩
    rw [hu.own] at h ⊢
    exact ref106 (hu.abs ho) (abs_lab hf.lab) (by rw [wire_app]; omega)
theorem lawOk (go : Good ol) (ho : absL ol = true) (hu : Un ol al own) (hf : Fit (255 - wire ol) own) : LawOk al ol := by
  have um : ∀ on pf, Un ol (moveA on al ol pf) (mvO (wire ol) own on pf) := fun on pf => move_un on pf hu
  have fm : ∀ on pf, Fit (255 - wire ol) (mvO (wire ol) own on pf) := fun on pf => mv_fit hf
  have gm : ∀ on pf, Good (moveA on al ol pf) := fun on pf => (um on pf).good go (fm on pf).lab (fm on pf).w
  have told : ∀ x ∈ toldL al ol, ∃ on pf, x = moveA on al ol pf := fun x hx => by
    unfold toldL at hx
    simp at hx
    rcases hx with rfl | rfl | rfl | rfl <;> exact ⟨_, _, rfl⟩
  have nms : ∀ b ∈ al :: toldL al ol, ∃ m, Nm ol b m := fun b hb => by
    rcases List.mem_cons.mp hb with rfl | hb
    · exact ⟨own, hf.nm hu⟩
    · obtain ⟨on, pf, rfl⟩ := told b hb
      exact ⟨_, (fm on pf).nm (um on pf)⟩
  have hka : rowL al ≠ rowL ol → own ≠ [] := fun h e => h (by rw [hu.row, e, rowL_nil, List.append_nil])
  refine ⟨hu.good go hf.lab hf.w, go, ?_, fun on pf => hr_un on pf hu ho, gm, fun x hx => ?_, fun h => ?_, fun h => ?_, fun h => ?_, fun h => ?_, fun h => ?_, ?_, ?_, fun b hb l hl => ?_, fun v => ?_, fun v => ?_, fun h v => ?_, fun v => ?_, fun on pf => ?_, refOk go ho hu hf⟩
  · rw [hu.own]; exact (refOk go ho hu hf).c2.g1 |> fun g => by rwa [hu.own] at g
  · obtain ⟨on, pf, rfl⟩ := told x hx
    refine ⟨lawful_good (gm on pf) ((um on pf).abs ho), ?_⟩
    rw [(um on pf).row, pre1_eq]; simp
  · have u := um true true
    rw [u.row] at h ⊢
    rw [hu.row, ilt_app]
    unfold mvO at h ⊢
    rw [if_pos rfl] at h ⊢
    cases q : scB (255 - wire ol) own true with
    | some n => exact sc_up hf.sm q
    | none => rw [q] at h; exact (h (by rw [Option.getD_none, rowL_nil, List.append_nil])).elim
  · rw [(um false true).row, hu.row, ilt_app]
    exact pd_down (pf := true) hf (hka h)
  · have u := um true false
    rw [u.row] at h ⊢
    rw [hu.row, ilt_app, pre1_app]
    have e : mvO (wire ol) own true false = (nx (255 - wire ol) own).getD [] := by unfold mvO scB; rw [if_pos rfl, if_neg (by simp)]
    rw [e] at h ⊢
    cases q : nx (255 - wire ol) own with
    | some n =>
      have hd := nx_up hf.sm q
      exact ⟨hd.lt, fun e => hd.ntake (List.append_cancel_left e)⟩
    | none => rw [q] at h; exact (h (by rw [Option.getD_none, rowL_nil, List.append_nil])).elim
  · have e : own = [] := by rw [hu.row] at h; exact row_ne (pre_self h)
    rw [(um false false).row, (um false true).row]
    subst e; rfl
  · have hne := hka h
    have u := um false false
    refine ⟨by rw [u.row, hu.row, ilt_app]; exact pd_down (pf := false) hf hne, ?_⟩
    cases own with
    | nil => exact (hne rfl).elim
    | cons l rest =>
      have hut := hu.tail
      rw [hut.row]
      have e : mvO (wire ol) (l :: rest) false false = pdB (wire ol) (l :: rest) false := rfl
      rcases pdF_kind (wo := wire ol) (l := l) (rest := rest) with q | ⟨m, q⟩
      · rw [e, q] at u; exact .inl u.row
      · rw [e, q] at u
        refine .inr ⟨by rw [u.len, hu.len]; rfl, u.tail.row⟩
  · have us := um true true
    have ux := move_un false true us
    refine ⟨_, hr_un false true us ho, ?_, ?_⟩
    · have f := mv_fit (on := false) (pf := true) (fm true true)
      have := ux.wire; have := f.w; omega
    · rw [ux.row, hu.row]
      congr 1
      show rowL (pdB (wire ol) (mvO (wire ol) own true true) true) = rowL own
      unfold mvO
      rw [if_pos rfl]
      cases q : scB (255 - wire ol) own true with
      | some n => exact back_some hf q
      | none => exact back_none hf q
  · have up := um false true
    have ux := move_un true true up
    refine ⟨_, hr_un true true up ho, ?_, ?_⟩
    · have f := mv_fit (on := true) (pf := true) (fm false true)
      have := ux.wire; have := f.w; omega
    · rw [ux.row, hu.row]
      congr 1
      show rowL ((scB (255 - wire ol) (pdB (wire ol) own true) true).getD []) = rowL own
      by_cases e : own = []
      · subst e; rw [forth_nil hf]; rfl
      · obtain ⟨n, q1, q2⟩ := forth_cons hf e
        rw [q1]; exact q2
  · obtain ⟨m, hm⟩ := nms b hb
    rw [hm.u.own] at hl
    intro e; subst e
    have := (hm.l _ hl).1
    simp at this
  · obtain ⟨m, hm⟩ := nm_name (v := v) (low := 252) go (⟨Un.self ol, fun _ h => (nomatch h), by have := go.small; show wire [] ≤ _; simp [wire]; exact this⟩ : Nm ol ol []) (by decide) (by decide)
    exact bok ho hu hf hm
  · obtain ⟨m, hm⟩ := nm_name (v := v) (low := 252) go (hf.nm hu) (by decide) (by decide)
    exact bok ho hu hf hm
  · have hne := hka h
    cases own with
    | nil => exact (hne rfl).elim
    | cons l rest =>
      obtain ⟨m, hm⟩ := nm_name (v := v) (low := 252) go (hf.tail.nm hu.tail) (by decide) (by decide)
      exact bok ho hu hf hm
  · obtain ⟨m, hm⟩ := nm_turn (v := v) (names := al :: toldL al ol) ho rfl nms
    exact bok ho hu hf hm
  · rw [hu.own, (um on pf).own]
    exact hr_rel on pf hf.lab hf.w ho
end
theorem keyI_low1 (c : UInt8) : keyI c = ((Builtin.Bytes.toLower c).toNat : Int) + 1 := by
  rw [← toLower_idem]; exact keyI_sm (toLower_sm c)
theorem law_ok (ns : List Int) : (alR ns).length ≤ 1000 ∧ (∀ b ∈ alR ns, b.length ≤ 1000) ∧ LawOk (alL ns) (olL ns) := by
  obtain ⟨⟨o', e, ho1⟩, ho2⟩ := nameL_grown (v := drawL ns 0) (low := 188) (tail := [[]]) (by decide) (by decide) (by decide)
  have eo : olL ns = o' ++ [[]] := e
  have g0 : Good ([[]] : Lbl) := ⟨fun _ h => (nomatch h), fun b h => by simp at h; subst h; decide, by decide⟩
  have go : Good (olL ns) := by rw [eo]; rw [e] at ho2; exact good_pre ho1 ho2 g0
  have ha : absL (olL ns) = true := by rw [eo, absL_app (by simp)]; rfl
  obtain ⟨⟨a', e2, ha1⟩, ha2⟩ := nameL_grown (v := drawL ns 1) (low := 252) (tail := olL ns) go.small (by decide) (by decide)
  have ea : alR ns = a' ++ olL ns := e2
  rw [e2] at ha2
  have ga : Good (alR ns) := by rw [ea]; exact good_pre ha1 ha2 go
  have hu : Un (olL ns) (alL ns) (a'.map blow) := by
    refine ⟨(olL ns).map blow, by unfold alL; rw [ea, List.map_append], ?_⟩
    rw [List.map_map]
    refine List.map_congr_left fun l _ => ?_
    show blow (blow l) = blow l
    unfold blow; rw [List.map_map]
    refine List.map_congr_left fun c _ => ?_
    have hk := toLower_idem (c)
    have h1 := keyI_low1 (Builtin.Bytes.toLower c)
    have h2 := keyI_low1 c
    have : (Builtin.Bytes.toLower (Builtin.Bytes.toLower c)).toNat = (Builtin.Bytes.toLower c).toNat := by omega
    exact UInt8.toNat.inj this
  have hw : wire (a'.map blow) = wire a' := by unfold wire; rw [List.map_map]; congr 1; exact List.map_congr_left fun b _ => by simp [blow_len]
  have hf : Fit (255 - wire (olL ns)) (a'.map blow) := by
    refine ⟨fun l hl => ?_, fun l hl => ?_, ?_⟩
    · obtain ⟨b, hb, rfl⟩ := List.mem_map.mp hl
      rw [blow_len]; exact ha1 b hb
    · obtain ⟨b, hb, rfl⟩ := List.mem_map.mp hl
      exact blow_sm b
    · rw [hw]; rw [wire_app] at ha2; omega
  exact ⟨by have := ga.len; omega, fun b hb => by have := ga.mem hb; omega, lawOk go ha hu hf⟩
theorem low_of {K : Frag} {h : Heap} (X : K.In h) {N : Nat} (hN : (K.map (·.1)).all (fun a => decide (a < N)) = true) : ∃ H1 : Heap, K.In H1 ∧ (∀ b o, H1.get? b = some o → h.get? b = some o) ∧ H1.objs.size ≤ N := by
  have key : ∀ b, b < N → ({ h with objs := h.objs.extract 0 N } : Heap).get? b = h.get? b := fun b hb => by
    have e : (h.objs.extract 0 N)[b]? = h.objs[b]? := by
      by_cases hs : b < h.objs.size
      · rw [Array.getElem?_eq_getElem hs, Array.getElem?_eq_getElem (by rw [Array.size_extract]; exact Nat.lt_min.mpr ⟨hb, hs⟩), Array.getElem_extract]; simp
      · have e1 : (h.objs.extract 0 N)[b]? = none := Array.getElem?_eq_none (by rw [Array.size_extract]; omega)
        have e2 : h.objs[b]? = none := Array.getElem?_eq_none (by omega)
        rw [e1, e2]
    show (match (h.objs.extract 0 N)[b]? with | some ⟨_, _, .freed, _⟩ => none | o => o) = _
    rw [e]; rfl
  refine ⟨{ h with objs := h.objs.extract 0 N }, fun a o ha => ?_, fun b o e => ?_, ?_⟩
  · have hm : a ∈ K.map (·.1) := by
      clear hN key X
      induction K with
      | nil => cases ha
      | cons p r ih =>
        obtain ⟨b, o'⟩ := p
        by_cases q : a = b
        · subst q; exact .head _
        · have q' : (a == b) = false := by simpa using q
          rw [List.lookup_cons, q'] at ha
          exact .tail _ (ih ha)
    have hl : a < N := by simpa using List.all_eq_true.mp hN a hm
    rw [key a hl]; exact X a o ha
  · by_cases hb : b < N
    · rw [key b hb] at e; exact e
    · have : (h.objs.extract 0 N)[b]? = none := by
        refine Array.getElem?_eq_none ?_; rw [Array.size_extract]; exact Nat.le_trans (by omega) (Nat.not_lt.mp hb)
      have e' : (match (h.objs.extract 0 N)[b]? with | some ⟨_, _, .freed, _⟩ => none | o => o) = some o := e
      rw [this] at e'; cases e'
  · show (h.objs.extract 0 N).size ≤ N
    rw [Array.size_extract]; exact Nat.min_le_left _ _
theorem last {q : Program} {loose : List Str} {XP : (Str → Option Value) → Heap → Prop} {as0 : List Addr} {e : ∀ P, as0 = (Mine.k0.heap_1 P).map (·.1)} {d : DefRec} {kwd : List (Str × Expr)} (hn : d.name = "law") :
    WalkR q loose XP (kHook Mine.k0.heap_1 as0 e).says (PySem.Challenge.rw_ji0017_01.row.toRowW) d kwd := by
  intro w s₀ s₁ mg mb G Y fa o pm cd doc dV kV ho hd hcd hD hmg hg args vals as hpre hlay hrd hwl hlo
  have KX := kIn_of Y
  refine Ground.open G ?_
  intro T B D TE TW
  wrow_args hpre hlay hrd hwl hlo
  refine wpP_call ?_
  rename_i ns _hs _h0 _hL1 _hr1 _hl2 _w4 _w3 l vs _w hL ra _w1 _r0 hI _hr hcond _hc2
  have TR := topRead_of T
  have efa : fa = 553 := by
    have h1 := mg_of (n := "law") (v := .ref 553) KX TR.g (by kernel_rfl)
    rw [hn, h1] at hmg
    injection hmg with h; injection h with h; exact h.symm
  subst efa
  have gok : (gi ⟨PySem.Challenge.rw_ji0017_01.row.prog, w, s₁.heap, q, looseW q loose, mg, mb⟩).Ok :=
    ⟨KX, low_of (N := 554) KX (by kernel_rfl), ⟨553, _, by rfl, Nat.le_refl _⟩, TR⟩
  have hvl : vs.length = ns.length := hI.length
  have hnl : ns.length ≤ 63 := by omega
  obtain ⟨ol, hol, hoc, nl, hod⟩ := hL
  obtain ⟨l1, l2, l3⟩ := law_ok ns
  refine fn_law (ns := ns) (gp := ⟨PySem.Challenge.rw_ji0017_01.row.prog, w, s₁.heap, q, looseW q loose, mg, mb⟩) ⟨l1, l2⟩ l3 callerA [] (fun _ => False) [.ref l] s₁ _ gok rfl rfl ⟨by decide +kernel, by decide +kernel⟩ ⟨fun _ _ e => e, trivial⟩ (fun _ h => nomatch h) (fun _ h => h.elim) (fun _ h => h.elim) ?_ ?_ ?_
  · simp only [RepL, Rep]
    exact ⟨.ref l, [], rfl, ⟨l, ol, vs, nl, rfl, ⟨hol, fun h => h⟩, hoc, hod, hI, small_line (by omega)⟩, rfl⟩
  · intro v d' h' tk er k r
    injection er with er; subst er
    simp only [Rep] at r; subst r
    refine ⟨.inl ⟨.bool true, ?_, [], rfl, fun _ => rfl, ?_, ?_, fun _ => ⟨List.nodup_nil, fun _ h => nomatch h⟩⟩, .of_keep fun b o e => (k b o e).1 (fun h => nomatch h), rfl, .of_eq hg⟩
    · exact .bool true
    · exact .bool true
    · kernel_rfl
  · intro c e a0 h' tk er
    cases er
end
end Mine
theorem Mine.top.tw6619511575143389814 : True := trivial
theorem Mine.top.tw11089057663814260623 : True := trivial
theorem Mine.top.tw995775220138220913 : True := trivial
theorem Mine.top.tw6791570820502891927 : True := trivial
theorem Mine.top.tw11574282978153928489 : True := trivial
theorem Mine.top.tw11190302592270754795 : True := trivial
theorem Mine.top.tw10944031595159391725 : True := trivial
theorem Mine.top.tw2401553659131043665 : True := trivial
theorem Mine.top.tw9437893007894698314 : True := trivial
theorem Mine.top.tw10068937697779739998 : True := trivial
theorem Mine.top.tw1723169230059412235 : True := trivial
theorem Mine.top.tw10962730384373954536 : True := trivial
theorem Mine.top.tw15884432914767390452 : True := trivial
theorem Mine.top.tw4347014868162816628 : True := trivial
theorem Mine.top.tw4899455088041399469 : True := trivial
theorem Mine.top.tw5434309568573575005 : True := trivial
theorem Mine.top.tw5635023394480961331 : True := trivial
theorem Mine.top.tw14440644126888564693 : True := trivial
theorem Mine.top.tw18200808041648558556 : True := trivial
theorem Mine.top.tw13191473780850816973 : True := trivial
theorem Mine.top.tw15088979973893423861 : True := trivial
theorem Mine.top.tw13506075022893628865 : True := trivial
theorem Mine.top.tw14020629218432114621 : True := trivial
theorem Mine.top.tw13899568491130100285 : True := trivial
theorem Mine.top.tw9465783595903631515 : True := trivial
theorem Mine.top.tw5692499903750754813 : True := trivial
theorem Mine.top.tw18394268562011335289 : True := trivial
theorem Mine.top.tw1147548669246485465 : True := trivial
theorem Mine.top.tw9272544492142499777 : True := trivial
theorem Mine.top.tw14347721165454393637 : True := trivial
theorem Mine.top.tw8472579005086612782 : True := trivial
theorem Mine.top.tw13799840507378627052 : True := trivial
theorem Mine.top.tw15125931889511115149 : True := trivial
theorem Mine.top.tw7845129631348957993 : True := trivial
theorem Mine.top.tw8800459187187324500 : True := trivial
theorem Mine.top.tw18326957874037197240 : True := trivial
theorem Mine.top.tw4773702212245658779 : True := trivial
theorem Mine.top.tw11666624071039921002 : True := trivial
theorem Mine.top.tw4299629679881509495 : True := trivial
theorem Mine.top.tw12609604535291364189 : True := trivial
theorem Mine.top.tw10467260515200827399 : True := trivial
theorem Mine.top.tw11620634932572840514 : True := trivial
theorem Mine.top.tw10296497611174029103 : True := trivial
theorem Mine.top.tw13261893007816960818 : True := trivial
theorem Mine.top.tw3465488137227279516 : True := trivial
theorem Mine.top.tw17022078359063049780 : True := trivial
theorem Mine.top.tw13864677062968915208 : True := trivial
theorem Mine.top.tw15058813355848621054 : True := trivial
theorem Mine.top.tw279221788311839977 : True := trivial
theorem Mine.top.tw7527032243904285869 : True := trivial
theorem Mine.top.tw5176459694589498394 : True := trivial
theorem Mine.top.tw11159431927160009238 : True := trivial
theorem Mine.top.tw8613191699965854469 : True := trivial
theorem Mine.top.tw13272337422414781067 : True := trivial
theorem Mine.top.tw16900427199656544559 : True := trivial
theorem Mine.top.tw2555065506035805374 : True := trivial
theorem Mine.top.tw14826035006057030972 : True := trivial
theorem Mine.top.tw8823455108540655025 : True := trivial
theorem Mine.top.tw8025738503920905074 : True := trivial
theorem Mine.top.tw4205137553216949640 : True := trivial
theorem Mine.top.tw2924597203103170677 : True := trivial
theorem Mine.top.tw8297286125493194097 : True := trivial
theorem Mine.top.tw16759092144687519636 : True := trivial
theorem Mine.top.tw6662652255960138227 : True := trivial
theorem Mine.top.tw14608685727046917156 : True := trivial
theorem Mine.top.tw17135812771915316397 : True := trivial
theorem Mine.top.tw2731995056826638727 : True := trivial
theorem Mine.top.tw3909029901177050473 : True := trivial
theorem Mine.top.tw6621670593625495552 : True := trivial
theorem Mine.top.tw13420762306968818387 : True := trivial
theorem Mine.top.tw11593399256984752444 : True := trivial
theorem Mine.top.tw3331421620988305804 : True := trivial
theorem Mine.top.tw11173010173815179391 : True := trivial
theorem Mine.top.tw13091174067606910046 : True := trivial
theorem Mine.top.tw16713831800681072344 : True := trivial
theorem Mine.top.tw3976154599441133093 : True := trivial
theorem Mine.top.tw6491118196486620199 : True := trivial
theorem Mine.top.tw6448850889433096767 : True := trivial
theorem Mine.top.tw9165953624949470791 : True := trivial
theorem Mine.top.tw6906291655842520137 : True := trivial
theorem Mine.top.tw9442318146202087700 : True := trivial
theorem Mine.top.tw4597200072644226624 : True := trivial
theorem Mine.top.tw5240762971458559404 : True := trivial
theorem Mine.top.tw2988451766255067171 : True := trivial
theorem Mine.top.tw14724332232928298890 : True := trivial
theorem Mine.top.tw17177869089781658578 : True := trivial
theorem Mine.top.tw14697636140705633519 : True := trivial
theorem Mine.top.tw8817415213059835157 : True := trivial
theorem Mine.top.tw4058662728301269685 : True := trivial
theorem Mine.top.tw6583040956863952856 : True := trivial
theorem Mine.top.tw1655259298481077034 : True := trivial
theorem Mine.top.tw2369445192022557226 : True := trivial
theorem Mine.top.tw2581206410525282061 : True := trivial
theorem Mine.top.tw7847352863974893604 : True := trivial
theorem Mine.top.tw13802547742096326172 : True := trivial
theorem Mine.top.tw16054190913257422852 : True := trivial
theorem Mine.top.tw10783980745131425670 : True := trivial
theorem Mine.top.tw13994475860397038760 : True := trivial
theorem Mine.top.tw9961057766049560675 : True := trivial
theorem Mine.top.tw6973401727384321114 : True := trivial
theorem Mine.top.tw2707679213066786127 : True := trivial
theorem Mine.top.tw15271675978053873483 : True := trivial
theorem Mine.top.tw860223938195835975 : True := trivial
theorem Mine.top.tw9326722878772556681 : True := trivial
theorem Mine.top.tw4699463449715708850 : True := trivial
theorem Mine.top.tw2377541652452675900 : True := trivial
theorem Mine.top.tw18237780215024852062 : True := trivial
theorem Mine.top.tw3254097082911018636 : True := trivial
theorem Mine.top.tw4859757453598101857 : True := trivial
theorem Mine.top.tw15687709949711836451 : True := trivial
theorem Mine.top.tw18164388396756303480 : True := trivial
theorem Mine.top.tw14248925298954806443 : True := trivial
theorem Mine.top.tw864819663365544661 : True := trivial
theorem Mine.top.tw11199710921928265848 : True := trivial
theorem Mine.top.tw1209819496270969543 : True := trivial
theorem Mine.top.tw17594962761535629368 : True := trivial
theorem Mine.top.tw9843447840031818808 : True := trivial
theorem Mine.top.tw14747140909534839006 : True := trivial
theorem Mine.top.tw4321519831107876412 : True := trivial
theorem Mine.top.tw15740088241188596515 : True := trivial
theorem Mine.top.tw8968299171318014206 : True := trivial
theorem Mine.top.tw681777741448182936 : True := trivial
theorem Mine.top.tw16415559393655328363 : True := trivial
theorem Mine.top.tw14235281626263879747 : True := trivial
theorem Mine.top.tw16262243036561855896 : True := trivial
theorem Mine.top.tw6912233166142098652 : True := trivial
theorem Mine.top.tw15877122091014420850 : True := trivial
theorem Mine.top.tw7444641836354208208 : True := trivial
theorem Mine.top.tw9516688046558066552 : True := trivial
theorem Mine.top.tw14453841093610474573 : True := trivial
theorem Mine.top.tw16453443671601555132 : True := trivial
theorem Mine.top.tw10579768621468169598 : True := trivial
theorem Mine.top.tw14390669486469195807 : True := trivial
theorem Mine.top.tw2446451932059125521 : True := trivial
theorem Mine.top.tw7198060816514059695 : True := trivial
theorem Mine.top.tw10187724287525710026 : True := trivial
theorem Mine.top.tw13501252493785611398 : True := trivial
theorem Mine.top.tw76412952228603488 : True := trivial
theorem Mine.top.tw11582926029173025856 : True := trivial
theorem Mine.top.tw4186445540838780016 : True := trivial
theorem Mine.top.tw9178861053002065721 : True := trivial
theorem Mine.top.tw2580922434103091657 : True := trivial
theorem Mine.top.tw3584897518013459382 : True := trivial
theorem Mine.top.tw9637101446671542 : True := trivial
theorem Mine.top.tw1139600151236580504 : True := trivial
theorem Mine.top.tw9614876229902214918 : True := trivial
theorem Mine.top.tw16044733080236030384 : True := trivial
theorem Mine.top.tw5702910450625016506 : True := trivial
theorem Mine.top.tw3561193834555079511 : True := trivial
theorem Mine.top.tw7325726471975496349 : True := trivial
theorem Mine.top.tw6919701780365589675 : True := trivial
theorem Mine.top.tw11443710868159068359 : True := trivial
theorem Mine.top.tw9382581127745807760 : True := trivial
theorem Mine.top.tw8139039716903228087 : True := trivial
theorem Mine.top.tw8679839319945467846 : True := trivial
theorem Mine.top.tw4547018644641229820 : True := trivial
theorem Mine.top.tw10341860258655708415 : True := trivial
theorem Mine.top.tw17103177528636943170 : True := trivial
theorem Mine.top.tw4383139521930768336 : True := trivial
theorem Mine.top.tw14282377253939248939 : True := trivial
theorem Mine.top.tw14789260269991461300 : True := trivial
theorem Mine.top.tw3669314199184481253 : True := trivial
theorem Mine.top.tw17565814175750979855 : True := trivial
theorem Mine.top.tw4392038535549328194 : True := trivial
theorem Mine.top.tw3855276242980373810 : True := trivial
theorem Mine.top.tw9913501989792142831 : True := trivial
theorem Mine.top.tw13889309363888878346 : True := trivial
theorem Mine.top.tw10774637447528242797 : True := trivial
theorem Mine.top.tw1706793611546318481 : True := trivial
theorem Mine.top.tw4555866861457887817 : True := trivial
theorem Mine.top.tw705360758644809490 : True := trivial
theorem Mine.top.tw3422688185749166683 : True := trivial
theorem Mine.top.tw11334350811105764591 : True := trivial
theorem Mine.top.tw15286249088069653756 : True := trivial
theorem Mine.top.tw5609151216138764652 : True := trivial
theorem Mine.top.tw3484022092364678248 : True := trivial
theorem Mine.top.tw11845233108574324481 : True := trivial
theorem Mine.top.tw1040915598704419856 : True := trivial
theorem Mine.top.tw4159251561096739476 : True := trivial
theorem Mine.top.tw3002795768020413707 : True := trivial
theorem Mine.top.tw13983857475226248213 : True := trivial
theorem Mine.top.tw427420600052151026 : True := trivial
theorem Mine.top.tw15569959144833144457 : True := trivial
theorem Mine.top.tw3217022616335106338 : True := trivial
theorem Mine.top.tw9743097575036673082 : True := trivial
theorem Mine.top.tw13044034144603486326 : True := trivial
theorem Mine.top.tw12894197372075662830 : True := trivial
theorem Mine.top.tw2686433634493928565 : True := trivial
theorem Mine.top.tw2770239361232196585 : True := trivial
theorem Mine.top.tw6694047246710070196 : True := trivial
theorem Mine.top.tw4791253341166991637 : True := trivial
theorem Mine.top.tw14901070454687303710 : True := trivial
theorem Mine.top.tw12117888159696746259 : True := trivial
theorem Mine.top.tw11994683656316670133 : True := trivial
theorem Mine.top.tw6749217079512962374 : True := trivial
theorem Mine.top.tw8140125068956082859 : True := trivial
theorem Mine.top.tw4736427724481360342 : True := trivial
theorem Mine.top.tw11960245374511038805 : True := trivial
theorem Mine.top.tw6893477703608230032 : True := trivial
theorem Mine.top.tw9233715247699887402 : True := trivial
theorem Mine.top.tw13318506193475082254 : True := trivial
theorem Mine.top.tw12622177474791663080 : True := trivial
theorem Mine.top.tw10915162052029792233 : True := trivial
theorem Mine.top.tw1886144042066472794 : True := trivial
theorem Mine.top.tw6503730183909636620 : True := trivial
theorem Mine.top.tw3315250197877816394 : True := trivial
theorem Mine.top.tw9229161468869434483 : True := trivial
theorem Mine.top.tw9590735534726013551 : True := trivial
theorem Mine.top.tw6187478851450931391 : True := trivial
theorem Mine.top.tw11423202765487971197 : True := trivial
theorem Mine.top.tw3730354652608582461 : True := trivial
theorem Mine.top.tw1245559373397905713 : True := trivial
theorem Mine.top.tw2741389259953327712 : True := trivial
theorem Mine.top.tw11457754044182789617 : True := trivial
theorem Mine.top.tw8148004212497801138 : True := trivial
theorem Mine.top.tw7743179893348639699 : True := trivial
theorem Mine.top.tw14611434983143301774 : True := trivial
theorem Mine.top.tw6520327441239513222 : True := trivial
theorem Mine.top.tw5915399644114372684 : True := trivial
theorem Mine.top.tw1275901062530889299 : True := trivial
theorem Mine.top.tw4166218997396506358 : True := trivial
theorem Mine.top.tw1068965626710143233 : True := trivial
theorem Mine.top.tw8538268897159353584 : True := trivial
theorem Mine.top.tw6286779285267259847 : True := trivial
theorem Mine.top.tw12415523145999629524 : True := trivial
theorem Mine.top.tw1814787853859245837 : True := trivial
theorem Mine.top.tw17046948494117081484 : True := trivial
theorem Mine.top.tw6930518751129746686 : True := trivial
theorem Mine.top.tw7458633546980236471 : True := trivial
theorem Mine.top.tw15362295582089109014 : True := trivial
theorem Mine.top.tw1112988674713690477 : True := trivial
theorem Mine.top.tw7557910624720293991 : True := trivial
theorem Mine.top.tw8443935842833279946 : True := trivial
theorem Mine.top.tw7600245330811189008 : True := trivial
theorem Mine.top.tw15508944514630427714 : True := trivial
theorem Mine.top.tw10996937224433265937 : True := trivial
theorem Mine.top.tw1638113669730673903 : True := trivial
theorem Mine.top.tw7671549972530922468 : True := trivial
theorem Mine.top.tw2985252069258134486 : True := trivial
theorem Mine.top.tw9919435345466941130 : True := trivial
theorem Mine.top.tw9378254376102152143 : True := trivial
theorem Mine.top.tw12318557346453588183 : True := trivial
theorem Mine.top.tw15299407806266782574 : True := trivial
theorem Mine.top.tw9759319705405543751 : True := trivial
theorem Mine.top.tw15245507539482535896 : True := trivial
theorem Mine.top.tw17103585973383926153 : True := trivial
theorem Mine.top.tw9739860059890490050 : True := trivial
theorem Mine.top.tw2619622883677149074 : True := trivial
theorem Mine.top.tw2822501910515967889 : True := trivial
theorem Mine.top.tw10362775142378211054 : True := trivial
theorem Mine.top.tw14917401599646851644 : True := trivial
theorem Mine.top.tw14597223018079223185 : True := trivial
theorem Mine.top.tw12379415707883124570 : True := trivial
theorem Mine.top.tw15169761463676818070 : True := trivial
theorem Mine.top.tw9631074621892390191 : True := trivial
theorem Mine.top.tw81815255157605957 : True := trivial
theorem Mine.top.tw4571971715460732019 : True := trivial
theorem Mine.top.tw17788931634197215145 : True := trivial
theorem Mine.top.tw10005945817407372193 : True := trivial
theorem Mine.top.tw13264354339760550358 : True := trivial
theorem Mine.top.tw14771320824794740959 : True := trivial
theorem Mine.top.tw6431110157172167083 : True := trivial
theorem Mine.top.tw6370870915552960936 : True := trivial
theorem Mine.top.tw8363718466572441477 : True := trivial
theorem Mine.top.tw13706816188851595723 : True := trivial
theorem Mine.top.tw9800703332001039478 : True := trivial
theorem Mine.top.tw15878805988109762761 : True := trivial
theorem Mine.top.tw9108098604805947806 : True := trivial
theorem Mine.top.tw9305691244287143441 : True := trivial
theorem Mine.top.tw3548060758652744671 : True := trivial
theorem Mine.top.tw6196800358849779857 : True := trivial
theorem Mine.top.tw17342085116792181814 : True := trivial
theorem Mine.top.tw9063741608606530840 : True := trivial
theorem Mine.top.tw8107780213005350392 : True := trivial
theorem Mine.top.tw3874152929960365753 : True := trivial
theorem Mine.top.tw2617719716777270872 : True := trivial
theorem Mine.top.tw8420165910927482534 : True := trivial
theorem Mine.top.tw7386116660499605909 : True := trivial
theorem Mine.top.tw11520865232209809239 : True := trivial
theorem Mine.top.tw53344730913325255 : True := trivial
theorem Mine.top.tw649594095290182367 : True := trivial
theorem Mine.top.tw3261557481417251176 : True := trivial
theorem Mine.top.tw14168018189251442112 : True := trivial
theorem Mine.top.tw11045010717311733409 : True := trivial
theorem Mine.top.tw7715697345341360870 : True := trivial
theorem Mine.top.tw5581607755468803823 : True := trivial
theorem Mine.top.tw3831216023754155268 : True := trivial
theorem Mine.top.tw3378803678994701225 : True := trivial
theorem Mine.top.tw13922054642007902626 : True := trivial
theorem Mine.top.tw15638586536077026902 : True := trivial
theorem Mine.top.tw15911569825323301435 : True := trivial
theorem Mine.top.tw16004416686337608138 : True := trivial
theorem Mine.top.tw11240886729373846589 : True := trivial
theorem Mine.top.tw11762496359356365647 : True := trivial
theorem Mine.top.tw1585457916280141200 : True := trivial
theorem Mine.top.tw93012567124736588 : True := trivial
theorem Mine.top.tw18177719399980262173 : True := trivial
theorem Mine.top.tw8622502720953521162 : True := trivial
theorem Mine.top.tw14632489290957082403 : True := trivial
theorem Mine.top.tw14983691940233647259 : True := trivial
theorem Mine.top.tw7673058066778466091 : True := trivial
theorem Mine.top.tw8345894832289464959 : True := trivial
theorem Mine.top.tw350670483859837877 : True := trivial
theorem Mine.top.tw16866024460163772082 : True := trivial
theorem Mine.top.tw9152664641465651067 : True := trivial
theorem Mine.top.tw6176384092110617959 : True := trivial
theorem Mine.top.tw11053662475850362967 : True := trivial
theorem Mine.top.tw13985988839938425345 : True := trivial
theorem Mine.top.tw2926424126403749041 : True := trivial
theorem Mine.top.tw14861896470697024400 : True := trivial
theorem Mine.top.tw15525995667512963556 : True := trivial
theorem Mine.top.tw16414630628198896168 : True := trivial
theorem Mine.top.tw14317375437502057738 : True := trivial
theorem Mine.top.tw8637452081102412489 : True := trivial
theorem Mine.top.tw4046864289407762814 : True := trivial
theorem Mine.top.tw11430207588045935325 : True := trivial
theorem Mine.top.tw4331257952254489624 : True := trivial
theorem Mine.top.tw15646934709686841381 : True := trivial
theorem Mine.top.tw10448899703829047738 : True := trivial
theorem Mine.top.tw13160728816969591200 : True := trivial
theorem Mine.top.tw3195522803047326042 : True := trivial
theorem Mine.top.tw14459580976405569124 : True := trivial
theorem Mine.top.tw16719718919923625709 : True := trivial
theorem Mine.top.tw5225153198818245361 : True := trivial
theorem Mine.top.tw10090393231696489298 : True := trivial
theorem Mine.top.tw516228168201391017 : True := trivial
theorem Mine.top.tw1754339480302792767 : True := trivial
theorem Mine.top.tw6124053682588569230 : True := trivial
theorem Mine.top.tw17355269125676882429 : True := trivial
theorem Mine.top.tw10195997230039290492 : True := trivial
theorem Mine.top.tw4940147422707163885 : True := trivial
theorem Mine.top.tw8281120267493503204 : True := trivial
theorem Mine.top.tw14537839394382259888 : True := trivial
theorem Mine.top.tw5766051744304087583 : True := trivial
theorem Mine.top.tw12545222027267286695 : True := trivial
theorem Mine.top.tw2770563814800254177 : True := trivial
theorem Mine.top.tw9951221954081769418 : True := trivial
theorem Mine.top.tw11199532085631943738 : True := trivial
theorem Mine.top.tw15503665604740900718 : True := trivial
theorem Mine.top.tw15092371282622821202 : True := trivial
theorem Mine.top.tw7429413206186439793 : True := trivial
theorem Mine.top.tw10694878333477680388 : True := trivial
theorem Mine.top.tw8321918168302905379 : True := trivial
theorem Mine.top.tw15860264024139754761 : True := trivial
theorem Mine.top.tw2732273902793177162 : True := trivial
theorem Mine.top.tw17810072253543177317 : True := trivial
theorem Mine.top.tw5868845118606482295 : True := trivial
theorem Mine.top.tw8892184565913893157 : True := trivial
theorem Mine.top.tw14372152842798730730 : True := trivial
theorem Mine.top.tw13305523845174962083 : True := trivial
theorem Mine.top.tw16782997733028217545 : True := trivial
theorem Mine.top.tw15095372191486117680 : True := trivial
theorem Mine.top.tw5728218623943512802 : True := trivial
theorem Mine.top.tw13889484949932952446 : True := trivial
theorem Mine.top.tw6430265229019958763 : True := trivial
theorem Mine.top.tw3712731000106771831 : True := trivial
theorem Mine.top.tw13500427573557490136 : True := trivial
theorem Mine.top.tw6908635100366463001 : True := trivial
theorem Mine.top.tw7273676953221729872 : True := trivial
theorem Mine.top.tw13385244156195431271 : True := trivial
theorem Mine.top.tw12209182163369298222 : True := trivial
theorem Mine.top.tw9227057690007400460 : True := trivial
theorem Mine.top.tw4526881389914513428 : True := trivial
theorem Mine.top.tw1483126911874232274 : True := trivial
theorem Mine.top.tw2506305409684761478 : True := trivial
theorem Mine.top.tw501154541418245514 : True := trivial
theorem Mine.top.tw17492772389151264855 : True := trivial
theorem Mine.top.tw10194810499950245846 : True := trivial
theorem Mine.top.tw14399976873020721970 : True := trivial
theorem Mine.top.tw8560541052185303311 : True := trivial
theorem Mine.top.tw3207569582813703071 : True := trivial
theorem Mine.top.tw12540527436937284434 : True := trivial
theorem Mine.top.tw7414872774492366064 : True := trivial
theorem Mine.top.tw1195175773429642966 : True := trivial
theorem Mine.top.tw11279390925490393535 : True := trivial
theorem Mine.top.tw12643491718579748851 : True := trivial
theorem Mine.top.tw13369591340354186047 : True := trivial
theorem Mine.top.tw5118827330378232414 : True := trivial
theorem Mine.top.tw1492452104121835379 : True := trivial
theorem Mine.top.tw8143265674769528471 : True := trivial
theorem Mine.top.tw17542608870123051758 : True := trivial
theorem Mine.top.tw6333448901615975916 : True := trivial
theorem Mine.top.tw6756868429301003459 : True := trivial
theorem Mine.top.tw575894324575664597 : True := trivial
theorem Mine.top.tw8598144960395782539 : True := trivial
theorem Mine.top.tw7855079511596107753 : True := trivial
theorem Mine.top.tw16174758807025615021 : True := trivial
theorem Mine.top.tw13303987763403120937 : True := trivial
theorem Mine.top.tw13120753694373217308 : True := trivial
theorem Mine.top.tw9233335307524088747 : True := trivial
theorem Mine.top.tw7008692893051332821 : True := trivial
theorem Mine.top.tw11116745826364501430 : True := trivial
theorem Mine.top.tw4213018616267185653 : True := trivial
theorem Mine.top.tw83393220934416808 : True := trivial
theorem Mine.top.tw10773188271377071773 : True := trivial
theorem Mine.top.tw8054331753737935190 : True := trivial
theorem Mine.top.tw10617020205504526918 : True := trivial
theorem Mine.top.tw953821971998124167 : True := trivial
theorem Mine.top.tw594810645892935528 : True := trivial
theorem Mine.top.tw12317137736924338119 : True := trivial
theorem Mine.top.tw2812155379371279736 : True := trivial
theorem Mine.top.tw16580785732701462914 : True := trivial
theorem Mine.top.tw6189502492464219833 : True := trivial
theorem Mine.top.tw18085771088847121727 : True := trivial
theorem Mine.top.tw2249405535684624136 : True := trivial
theorem Mine.top.tw13370750898655102155 : True := trivial
theorem Mine.top.tw4047667213573674445 : True := trivial
theorem Mine.top.tw2847958352784047137 : True := trivial
theorem Mine.top.tw17828378304095215089 : True := trivial
theorem Mine.top.tw8729362747519067210 : True := trivial
theorem Mine.top.tw5667650583090716360 : True := trivial
theorem Mine.top.tw8212240652046128837 : True := trivial
theorem Mine.top.tw17050326753033342646 : True := trivial
theorem Mine.top.tw1123975283337734383 : True := trivial
theorem Mine.top.tw6624316729101989866 : True := trivial
theorem Mine.top.tw14823308797102314842 : True := trivial
theorem Mine.top.tw3696473221133414273 : True := trivial
theorem Mine.top.tw6505410396798821541 : True := trivial
theorem Mine.top.tw8523463495250067690 : True := trivial
theorem Mine.top.tw18034075008235765660 : True := trivial
theorem Mine.top.tw12764151676501842404 : True := trivial
theorem Mine.top.tw4695670854781333657 : True := trivial
theorem Mine.top.tw381845443943030031 : True := trivial
theorem Mine.top.tw3796891538752321733 : True := trivial
theorem Mine.top.tw8810280945414196856 : True := trivial
theorem Mine.top.tw14450715343900746980 : True := trivial
theorem Mine.top.tw13370185576492129568 : True := trivial
theorem Mine.top.tw8735323631387419056 : True := trivial
theorem Mine.top.tw12392516345856041104 : True := trivial
theorem Mine.top.tw5476889619067714990 : True := trivial
theorem Mine.top.tw16736118626332596326 : True := trivial
theorem Mine.top.tw17576949682797635024 : True := trivial
theorem Mine.top.tw15542334942015070624 : True := trivial
theorem Mine.top.tw13326734554550294991 : True := trivial
theorem Mine.top.tw2601905985415302144 : True := trivial
theorem Mine.top.tw5523086135645875356 : True := trivial
theorem Mine.top.tw17981982808018919739 : True := trivial
theorem Mine.top.tw10801874191123338550 : True := trivial
theorem Mine.top.tw10648311167861321448 : True := trivial
theorem Mine.top.tw16204670001084760307 : True := trivial
theorem Mine.top.tw728428047077509346 : True := trivial
theorem Mine.top.tw6381231289166406305 : True := trivial
theorem Mine.top.tw1617357707322924660 : True := trivial
theorem Mine.top.tw18186074749648716422 : True := trivial
theorem Mine.top.tw6859976401760118174 : True := trivial
theorem Mine.top.tw12904532413392791838 : True := trivial
theorem Mine.top.tw956089473029861405 : True := trivial
theorem Mine.top.tw672699306608606093 : True := trivial
theorem Mine.top.tw17582957951858275007 : True := trivial
theorem Mine.top.tw13890846271309207196 : True := trivial
theorem Mine.top.tw1394568958698188020 : True := trivial
theorem Mine.top.tw1988063486488863061 : True := trivial
theorem Mine.top.tw15349318334595610263 : True := trivial
theorem Mine.top.tw16597617366809209970 : True := trivial
theorem Mine.top.tw11141966352661209427 : True := trivial
theorem Mine.top.tw15874363893724204672 : True := trivial
theorem Mine.top.tw3871027444623705763 : True := trivial
theorem Mine.top.tw13012589842206080548 : True := trivial
theorem Mine.top.tw7059692629156357883 : True := trivial
theorem Mine.top.tw3664424711883983056 : True := trivial
theorem Mine.top.tw10574840078274726829 : True := trivial
theorem Mine.top.tw4916261283513009128 : True := trivial
theorem Mine.top.tw4796303294375832693 : True := trivial
theorem Mine.top.tw7681529838311687354 : True := trivial
theorem Mine.top.tw1321871150748368714 : True := trivial
theorem Mine.top.tw18185382058313985135 : True := trivial
theorem Mine.top.tw16264823338695392855 : True := trivial
theorem Mine.top.tw10001883323181062329 : True := trivial
theorem Mine.top.tw8265311939077410998 : True := trivial
theorem Mine.top.tw8657480035899644758 : True := trivial
theorem Mine.top.tw8973803690348224638 : True := trivial
theorem Mine.top.tw1212798325632107971 : True := trivial
theorem Mine.top.tw84136930442132756 : True := trivial
theorem Mine.top.tw2220570432770164149 : True := trivial
theorem Mine.top.tw13896958669275611876 : True := trivial
theorem Mine.top.tw6674990990233134667 : True := trivial
theorem Mine.top.tw17741875731164886585 : True := trivial
theorem Mine.top.tw13167462122316868159 : True := trivial
theorem Mine.top.tw7160873610591055699 : True := trivial
theorem Mine.top.tw11542710104232473196 : True := trivial
theorem Mine.top.tw2722852734226103192 : True := trivial
theorem Mine.top.tw6292954644110606532 : True := trivial
theorem Mine.top.tw987869383939708018 : True := trivial
theorem Mine.top.tw17781115878593249900 : True := trivial
theorem Mine.top.tw14263998999751124003 : True := trivial
theorem Mine.top.tw5507162329139097715 : True := trivial
theorem Mine.top.tw4177254973167742082 : True := trivial
theorem Mine.top.tw8204474986945543665 : True := trivial
theorem Mine.top.tw6746510453823603384 : True := trivial
theorem Mine.top.tw2417791160451022400 : True := trivial
theorem Mine.top.tw7213333562754528385 : True := trivial
theorem Mine.top.tw8237333600419904120 : True := trivial
theorem Mine.top.tw2405475915293451298 : True := trivial
theorem Mine.top.tw9990226795618131978 : True := trivial
theorem Mine.top.tw1186331607622873149 : True := trivial
theorem Mine.top.tw14657780768301432306 : True := trivial
theorem Mine.top.tw1016984595167383106 : True := trivial
theorem Mine.top.tw2007660962349395123 : True := trivial
theorem Mine.top.tw15361541807878343388 : True := trivial
theorem Mine.top.tw17346259052997144950 : True := trivial
theorem Mine.top.tw15722756333993289495 : True := trivial
theorem Mine.top.tw995497684801637723 : True := trivial
theorem Mine.top.tw7587601194962177611 : True := trivial
theorem Mine.top.tw708234853630380328 : True := trivial
theorem Mine.top.tw14526540143163920134 : True := trivial
theorem Mine.top.tw10399464001100048223 : True := trivial
theorem Mine.top.tw9843949296442739443 : True := trivial
theorem Mine.top.tw13177472732611162249 : True := trivial
theorem Mine.top.tw11133666699803404755 : True := trivial
theorem Mine.top.tw5058314954733539658 : True := trivial
theorem Mine.top.tw17620759639134147866 : True := trivial
theorem Mine.top.tw2267912224990424062 : True := trivial
theorem Mine.top.tw12080426169559351053 : True := trivial
theorem Mine.top.tw7381879191629600215 : True := trivial
theorem Mine.top.tw16795567611416646642 : True := trivial
theorem Mine.top.tw8327351992414209593 : True := trivial
theorem Mine.top.tw2727672472851901052 : True := trivial
theorem Mine.top.tw8999917154711486175 : True := trivial
theorem Mine.top.tw18289109515434150305 : True := trivial
theorem Mine.top.tw16878204669230926818 : True := trivial
theorem Mine.top.tw5839659824258004927 : True := trivial
theorem Mine.top.tw517144808224063464 : True := trivial
theorem Mine.top.tw11145643937294416527 : True := trivial
theorem Mine.top.tw17030962893124633753 : True := trivial
theorem Mine.top.tw18371284783138465269 : True := trivial
theorem Mine.top.tw3995942328266245912 : True := trivial
theorem Mine.top.tw12958502747184954254 : True := trivial
theorem Mine.top.tw5244899138074338376 : True := trivial
theorem Mine.top.tw16800595933775061595 : True := trivial
theorem Mine.top.tw9149571693438533347 : True := trivial
theorem Mine.top.tw16240068400928781132 : True := trivial
theorem Mine.top.tw16439428074185983240 : True := trivial
theorem Mine.top.tw16196420915677631385 : True := trivial
theorem Mine.top.tw814325599930780420 : True := trivial
theorem Mine.top.tw10548783162686979305 : True := trivial
theorem Mine.top.tw2758071753971750899 : True := trivial
theorem Mine.top.tw3474246075231452896 : True := trivial
theorem Mine.top.tw1522322319653140107 : True := trivial
theorem Mine.top.tw14142502885225118848 : True := trivial
theorem Mine.top.tw11072019736110318841 : True := trivial
theorem Mine.top.tw908825868028484722 : True := trivial
theorem Mine.top.tw5245862010334584759 : True := trivial
theorem Mine.top.tw1291508964198565346 : True := trivial
theorem Mine.top.tw370947364307004932 : True := trivial
theorem Mine.top.tw16325430554902658873 : True := trivial
theorem Mine.top.tw3337584539547039419 : True := trivial
theorem Mine.top.tw18367679650794681301 : True := trivial
theorem Mine.top.tw1676862907878916244 : True := trivial
theorem Mine.top.tw13090165191389475591 : True := trivial
theorem Mine.top.tw1297684725254868899 : True := trivial
theorem Mine.top.tw620129878449983639 : True := trivial
theorem Mine.top.tw2145171640123136144 : True := trivial
theorem Mine.top.tw1833847959688406909 : True := trivial
theorem Mine.top.tw2835187731363253809 : True := trivial
theorem Mine.top.tw16273406610938067001 : True := trivial
theorem Mine.top.tw16821654228018055803 : True := trivial
theorem Mine.top.tw11203750815551599093 : True := trivial
theorem Mine.top.tw3776753064480771068 : True := trivial
theorem Mine.top.tw5105846836358774362 : True := trivial
theorem Mine.top.tw887695700811335699 : True := trivial
theorem Mine.top.tw2057334267981633021 : True := trivial
theorem Mine.top.tw17469865338272021226 : True := trivial
theorem Mine.top.tw1088946173253831356 : True := trivial
theorem Mine.top.tw10567129059001840431 : True := trivial
theorem Mine.top.tw9059672392935016618 : True := trivial
theorem Mine.top.tw11922380849998532372 : True := trivial
theorem Mine.top.tw9259421805112917234 : True := trivial
theorem Mine.top.tw17089494485692210459 : True := trivial
theorem Mine.top.tw14671331368771545958 : True := trivial
theorem Mine.top.tw11459358961799972967 : True := trivial
theorem Mine.top.tw5889316905344633881 : True := trivial
theorem Mine.top.tw12535971307161669396 : True := trivial
theorem Mine.top.tw11858546649754279707 : True := trivial
theorem Mine.top.tw16352630495959832749 : True := trivial
theorem Mine.top.tw16885616592811714743 : True := trivial
theorem Mine.top.tw9854310039474760501 : True := trivial
theorem Mine.top.tw795583310449317561 : True := trivial
theorem Mine.top.tw13001836021917841797 : True := trivial
theorem Mine.top.tw2126296398998916975 : True := trivial
theorem Mine.top.tw10008474027749305400 : True := trivial
theorem Mine.top.tw1353657120722975067 : True := trivial
theorem Mine.top.tw13432635357386499347 : True := trivial
theorem Mine.top.tw12166907935582030026 : True := trivial
theorem Mine.top.tw15177526630643400193 : True := trivial
theorem Mine.top.tw4498253355057717688 : True := trivial
theorem Mine.top.tw7313339093194340965 : True := trivial
theorem Mine.top.tw17795014544551873601 : True := trivial
theorem Mine.top.tw12385144161495827662 : True := trivial
theorem Mine.top.tw4076138812419527698 : True := trivial
theorem Mine.top.tw17545328352263074274 : True := trivial
theorem Mine.top.tw1149218181149386328 : True := trivial
theorem Mine.top.tw14615657086365298920 : True := trivial
theorem Mine.top.tw9195894827357321740 : True := trivial
theorem Mine.top.tw4840481374290595910 : True := trivial
theorem Mine.top.tw12105128591322288922 : True := trivial
theorem Mine.top.tw8694864300669457046 : True := trivial
theorem Mine.top.tw1124271682379634556 : True := trivial
theorem Mine.top.tw5398424786039705171 : True := trivial
theorem Mine.top.tw9059832203979395877 : True := trivial
theorem Mine.top.tw6383614241601562808 : True := trivial
theorem Mine.top.tw13713866747541496747 : True := trivial
theorem Mine.top.tw16068562728529669930 : True := trivial
theorem Mine.top.tw1486479319815781832 : True := trivial
theorem Mine.top.tw4807692442873511580 : True := trivial
theorem Mine.top.tw9335426496214029073 : True := trivial
theorem Mine.top.tw11760055953109336660 : True := trivial
theorem Mine.top.tw9361663168868926718 : True := trivial
theorem Mine.top.tw6885214360128481674 : True := trivial
theorem Mine.top.tw17953984050398360512 : True := trivial
theorem Mine.top.tw5969682004907312646 : True := trivial
theorem Mine.top.tw18374746225686918389 : True := trivial
theorem Mine.top.tw9016798869158615873 : True := trivial
theorem Mine.top.tw15240379268576122478 : True := trivial
theorem Mine.top.tw8265191368974092141 : True := trivial
theorem Mine.top.tw2312856594315299383 : True := trivial
theorem Mine.top.tw15985961358823992270 : True := trivial
theorem Mine.top.tw411662067469150650 : True := trivial
theorem Mine.top.tw2907113945770861938 : True := trivial
theorem Mine.top.tw7204493036743257322 : True := trivial
theorem Mine.top.tw13987285891283452908 : True := trivial
theorem Mine.top.tw13068111086705522682 : True := trivial
theorem Mine.top.tw8369368087495890639 : True := trivial
theorem Mine.top.tw297971269722091814 : True := trivial
theorem Mine.top.tw2462062305354472974 : True := trivial
theorem Mine.top.tw8311017846404947139 : True := trivial
theorem Mine.top.tw6438537300738474071 : True := trivial
theorem Mine.top.tw9953747333497923681 : True := trivial
theorem Mine.top.tw9503340733035011235 : True := trivial
theorem Mine.top.tw1108800333578037850 : True := trivial
theorem Mine.top.tw17085176360113175178 : True := trivial
theorem Mine.top.tw4655869559712951663 : True := trivial
theorem Mine.top.tw6487610083215253720 : True := trivial
theorem Mine.top.tw14762295962024373759 : True := trivial
theorem Mine.top.tw6664487174759623829 : True := trivial
theorem Mine.top.tw2878843996050045342 : True := trivial
theorem Mine.top.tw13710211086531791108 : True := trivial
theorem Mine.top.tw10864713392326063847 : True := trivial
theorem Mine.top.tw12787338502077490372 : True := trivial
theorem Mine.top.tw8184561461823581802 : True := trivial
theorem Mine.top.tw2596539476470345881 : True := trivial
theorem Mine.top.tw15918733279669447828 : True := trivial
theorem Mine.top.tw5278709424875269971 : True := trivial
theorem Mine.top.tw2665807947273092163 : True := trivial
theorem Mine.top.tw9589608677651300831 : True := trivial
theorem Mine.top.tw15254643099363442306 : True := trivial
theorem Mine.top.tw13290321428070320777 : True := trivial
theorem Mine.top.tw8813761850579938390 : True := trivial
theorem Mine.top.tw4713442408853163898 : True := trivial
theorem Mine.top.tw6203543418390704334 : True := trivial
theorem Mine.top.tw18063644159110109576 : True := trivial
theorem Mine.top.tw6211089042160764376 : True := trivial
theorem Mine.top.tw16034636559557993077 : True := trivial
theorem Mine.top.tw453181688931711583 : True := trivial
theorem Mine.top.tw13134186033006778460 : True := trivial
theorem Mine.top.tw7847650389618582240 : True := trivial
theorem Mine.top.tw3820434133910038737 : True := trivial
theorem Mine.top.tw1717825165581474212 : True := trivial
theorem Mine.top.tw1843344800811705456 : True := trivial
theorem Mine.top.tw13822267516522204269 : True := trivial
theorem Mine.top.tw11982747722937265360 : True := trivial
theorem Mine.top.tw13359135706311490777 : True := trivial
theorem Mine.top.tw877433047237710547 : True := trivial
theorem Mine.top.tw6042063481754889096 : True := trivial
theorem Mine.top.tw2218668502564051296 : True := trivial
theorem Mine.top.tw12819366960792805191 : True := trivial
theorem Mine.top.tw1601500998369573665 : True := trivial
theorem Mine.top.tw12483720753089274532 : True := trivial
theorem Mine.top.tw9366391650621772374 : True := trivial
theorem Mine.top.tw14851680436948445374 : True := trivial
theorem Mine.top.tw1142415686869020238 : True := trivial
theorem Mine.top.tw12718909917080609646 : True := trivial
theorem Mine.top.tw8689318265317240412 : True := trivial
theorem Mine.top.tw146815374380898660 : True := trivial
theorem Mine.top.tw5552270689369575618 : True := trivial
theorem Mine.top.tw5860347150701562758 : True := trivial
theorem Mine.top.tw17555251805378815213 : True := trivial
theorem Mine.top.tw427269002284569659 : True := trivial
theorem Mine.top.tw13345470168829271861 : True := trivial
theorem Mine.top.tw3120133295221510679 : True := trivial
set_option Elab.async true
section
local macro_rules
  | `(tactic| refine $h:ident $args*) => do
    if h.getId == `PySem.W.holds_open then `(tactic| refine Mine.holds_R $args*) else Lean.Macro.throwUnsupported
theorem Mine.top : PySem.Challenge.rw_ji0017_01.Holds := by
  w_on; o_law; o_head (kHook Mine.k0.heap_1 [2, 3, 15, 17, 18, 20, 21, 22, 29, 30, 31, 32, 35, 42, 43, 44, 47, 54, 55, 56, 66, 67, 68, 69, 70, 73, 80, 81, 82, 85, 92, 93, 94, 97, 104, 105, 106, 109, 116, 117, 118, 121, 128, 129, 130, 133, 140, 141, 142, 145, 152, 153, 154, 157, 159, 160, 162, 163, 164, 166, 167, 169, 170, 178, 181, 182, 183, 185, 186, 188, 189, 190, 192, 193, 195, 196, 197, 199, 200, 202, 203, 204, 206, 207, 209, 210, 211, 213, 214, 216, 217, 218, 220, 221, 223, 224, 225, 227, 228, 230, 231, 232, 234, 235, 237, 238, 239, 241, 242, 244, 245, 246, 248, 249, 251, 252, 253, 255, 256, 258, 259, 260, 262, 263, 265, 266, 267, 268, 270, 271, 273, 274, 275, 277, 278, 280, 281, 282, 283, 285, 286, 288, 289, 290, 291, 293, 294, 296, 297, 298, 300, 301, 303, 304, 305, 307, 308, 310, 311, 312, 314, 315, 317, 318, 319, 321, 322, 324, 325, 326, 328, 329, 331, 332, 333, 335, 336, 338, 339, 340, 342, 343, 345, 346, 347, 349, 350, 352, 353, 354, 355, 357, 358, 360, 361, 362, 364, 365, 367, 368, 369, 370, 372, 373, 375, 376, 377, 378, 380, 381, 383, 384, 385, 386, 387, 388, 389, 393, 394, 403, 409, 410, 418, 424, 425, 434, 439, 441, 442, 444, 445, 446, 448, 449, 451, 452, 453, 455, 456, 458, 459, 460, 462, 463, 465, 466, 467, 469, 470, 472, 473, 474, 476, 477, 479, 480, 481, 482, 484, 485, 487, 488, 489, 491, 492, 494, 495, 496, 498, 499, 501, 502, 503, 505, 506, 508, 509, 510, 513, 514, 515, 518, 519, 520, 523, 524, 525, 528, 529, 530, 533, 534, 535, 537, 538, 540, 541, 542, 545, 546, 547, 549, 550, 552, 553] (fun _ => by kernel_rfl)); (case hw => w_witness2)
  exact Mine.last rfl
end
set_option Elab.async false
theorem PySem.Challenge.cw_ji0017_01_holds : PySem.Challenge.rw_ji0017_01.Holds :=
  Mine.top
