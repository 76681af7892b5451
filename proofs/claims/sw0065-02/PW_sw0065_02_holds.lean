import PyProof.Rows.All
import KE.KUnpack
import ObjForm.ListNI
import Wide.FinOn
import OpenK.AllK
import Wide.All
import PySem.Challenge.RW_sw0065_02
set_option Elab.async false
set_option autoImplicit false
set_option linter.all false
section
open PySem PySem.W PyProof.Rows
namespace Mine
inductive SV where
  | i (n : Int)
  | t (s : Str)
  deriving DecidableEq
inductive PV where
  | none
  | bool (b : Bool)
  | int (n : Int)
  | flt (x : UInt64)
  | str (s : Str)
  | tup (l : List PV)
  | lst (l : List PV)
  | dcti (l : List (Int × SV))
  | dcts (l : List (Str × SV))
inductive SVR : Value -> SV -> Prop
  | i (n : Int) (t : Tok) : SVR (.int n t) (.i n)
  | t (s : Str) (t : Tok) : SVR (.str s t) (.t s)
inductive KVR {K : Type} : List (K × Value) -> List (K × SV) -> Prop
  | nil : KVR [] []
  | cons {k : K} {v : Value} {a : SV} {es : List (K × Value)} {l : List (K × SV)} : SVR v a -> KVR es l -> KVR ((k, v) :: es) ((k, a) :: l)
def PlainTup (h : Heap) (a : Addr) (items : Array Value) : Prop := ∃ n, h.get? a = some { cls := .type "tuple", data := .seq items n }
def PlainDictI (prog : Program) (w : World) (h : Heap) (a : Addr) (l : List (Int × SV)) : Prop := (a == sysModules) = false /\ ∃ kvs, h.DictOf (intKind prog w) a kvs /\ KVR kvs l
def PlainDictS (prog : Program) (w : World) (h : Heap) (a : Addr) (l : List (Str × SV)) : Prop := (a == sysModules) = false /\ ∃ kvs, h.DictOf (strKind prog w) a kvs /\ KVR kvs l
mutual
inductive RV (prog : Program) (w : World) (h : Heap) (N : Addr -> Prop) : Value -> PV -> Prop
  | none : RV prog w h N .none .none
  | bool (b : Bool) : RV prog w h N (.bool b) (.bool b)
  | int (n : Int) (t : Tok) : RV prog w h N (.int n t) (.int n)
  | flt (x : UInt64) (t : Tok) : t ≠ 0 -> RV prog w h N (.float x t) (.flt x)
  | str (s : Str) (t : Tok) : RV prog w h N (.str s t) (.str s)
  | tup {a : Addr} {vs : List Value} {l : List PV} : ¬ N a -> PlainTup h a vs.toArray -> RVs prog w h N vs l -> RV prog w h N (.ref a) (.tup l)
  | lst {a : Addr} {vs : List Value} {l : List PV} : ¬ N a -> h.PlainList a vs.toArray -> RVs prog w h N vs l -> RV prog w h N (.ref a) (.lst l)
  | dcti {a : Addr} {l : List (Int × SV)} : ¬ N a -> PlainDictI prog w h a l -> RV prog w h N (.ref a) (.dcti l)
  | dcts {a : Addr} {l : List (Str × SV)} : ¬ N a -> PlainDictS prog w h a l -> RV prog w h N (.ref a) (.dcts l)
inductive RVs (prog : Program) (w : World) (h : Heap) (N : Addr -> Prop) : List Value -> List PV -> Prop
  | nil : RVs prog w h N [] []
  | cons {v : Value} {p : PV} {vs : List Value} {ps : List PV} : RV prog w h N v p -> RVs prog w h N vs ps -> RVs prog w h N (v :: vs) (p :: ps)
end
structure Step (h : Heap) (N : Addr -> Prop) (h' : Heap) (N' : Addr -> Prop) : Prop where
  keep : ∀ b o, ¬ N b -> h.get? b = some o -> h'.get? b = some o
  grow : h.objs.size <= h'.objs.size
  new : ∀ b, N' b -> N b \/ h.objs.size <= b
theorem Step.trans {h h' h'' : Heap} {N N' N'' : Addr -> Prop} (a : Step h N h' N') (b : Step h' N' h'' N'') : Step h N h'' N'' where
  keep := fun x o hn e => b.keep x o (fun hn' => by
    rcases a.new x hn' with q | q
    · exact hn q
    · exact absurd (Heap.lt_size e) (Nat.not_lt.mpr q)) (a.keep x o hn e)
  grow := Nat.le_trans a.grow b.grow
  new := fun x hx => by
    rcases b.new x hx with q | q
    · exact a.new x q
    · exact .inr (Nat.le_trans a.grow q)
theorem Step.refl (h : Heap) (N : Addr -> Prop) : Step h N h N := ⟨fun _ _ _ e => e, Nat.le_refl _, fun _ q => .inl q⟩
theorem Step.of_keeps {h h' : Heap} {N : Addr -> Prop} (k : ∀ b o, h.get? b = some o -> h'.get? b = some o) (g : h.objs.size <= h'.objs.size) : Step h N h' N := ⟨fun b o _ e => k b o e, g, fun _ q => .inl q⟩
theorem Step.or {h h' : Heap} {N N' : Addr -> Prop} (s : Step h N h' N') (Na : Addr -> Prop) : Step h (fun b => Na b \/ N b) h' (fun b => Na b \/ N' b) where
  keep := fun b o hn e => s.keep b o (fun q => hn (.inr q)) e
  grow := s.grow
  new := fun b hb => by
    rcases hb with q | q
    · exact .inl (.inl q)
    · rcases s.new b q with q | q
      · exact .inl (.inr q)
      · exact .inr q
section
variable {prog : Program} {w : World} {h h' : Heap} {N N' : Addr -> Prop}
theorem Step.notN (s : Step h N h' N') {a : Addr} {o : Obj} (hn : ¬ N a) (e : h.get? a = some o) : ¬ N' a := fun q => by
  rcases s.new a q with q | q
  · exact hn q
  · exact absurd (Heap.lt_size e) (Nat.not_lt.mpr q)
mutual
theorem RV.step (s : Step h N h' N') : ∀ {v : Value} {p : PV}, RV prog w h N v p -> RV prog w h' N' v p
  | _, _, .none => .none
  | _, _, .bool b => .bool b
  | _, _, .int n t => .int n t
  | _, _, .flt x t ht => .flt x t ht
  | _, _, .str x t => .str x t
  | _, _, .tup hn ⟨n, e⟩ r => .tup (s.notN hn e) ⟨n, s.keep _ _ hn e⟩ (RVs.step s r)
  | _, _, .lst hn ⟨n, e⟩ r => .lst (s.notN hn e) ⟨n, s.keep _ _ hn e⟩ (RVs.step s r)
  | _, _, .dcti hn ⟨hs, kvs, ⟨o, es, ep, e, r⟩, d⟩ => .dcti (s.notN hn e) ⟨hs, kvs, ⟨o, es, ep, s.keep _ _ hn e, r⟩, d⟩
  | _, _, .dcts hn ⟨hs, kvs, ⟨o, es, ep, e, r⟩, d⟩ => .dcts (s.notN hn e) ⟨hs, kvs, ⟨o, es, ep, s.keep _ _ hn e, r⟩, d⟩
theorem RVs.step (s : Step h N h' N') : ∀ {vs : List Value} {ps : List PV}, RVs prog w h N vs ps -> RVs prog w h' N' vs ps
  | _, _, .nil => .nil
  | _, _, .cons a b => .cons (RV.step s a) (RVs.step s b)
end
theorem RVs.length {vs : List Value} {ps : List PV} (r : RVs prog w h N vs ps) : vs.length = ps.length := by
  induction ps generalizing vs with
  | nil => cases r; rfl
  | cons p ps ih => cases r with | cons a b => simp [ih b]
theorem RVs.append {vs ws : List Value} {ps qs : List PV} (r : RVs prog w h N vs ps) (q : RVs prog w h N ws qs) : RVs prog w h N (vs ++ ws) (ps ++ qs) := by
  induction ps generalizing vs with
  | nil => cases r; exact q
  | cons p ps ih => cases r with | cons a b => exact .cons a (ih b)
theorem RVs.get {vs : List Value} {ps : List PV} (r : RVs prog w h N vs ps) {k : Nat} {p : PV} (hp : ps[k]? = some p) : ∃ v, vs[k]? = some v /\ RV prog w h N v p := by
  induction ps generalizing vs k with
  | nil => simp at hp
  | cons q ps ih =>
    cases r with
    | cons a b =>
      cases k with
      | zero => simp at hp; subst hp; exact ⟨_, by simp, a⟩
      | succ k => simp at hp; obtain ⟨v, hv, hr⟩ := ih b hp; exact ⟨v, by simpa using hv, hr⟩
theorem RVs.take {vs : List Value} {ps : List PV} (r : RVs prog w h N vs ps) (k : Nat) : RVs prog w h N (vs.take k) (ps.take k) := by
  induction ps generalizing vs k with
  | nil => cases r; simp; exact .nil
  | cons q ps ih =>
    cases r with
    | cons a b =>
      cases k with
      | zero => simp; exact .nil
      | succ k => simpa using .cons a (ih b k)
theorem RVs.drop {vs : List Value} {ps : List PV} (r : RVs prog w h N vs ps) (k : Nat) : RVs prog w h N (vs.drop k) (ps.drop k) := by
  induction ps generalizing vs k with
  | nil => cases r; simp; exact .nil
  | cons q ps ih =>
    cases r with
    | cons a b =>
      cases k with
      | zero => simpa using .cons a b
      | succ k => simpa using ih b k
theorem RVs.reverse {vs : List Value} {ps : List PV} (r : RVs prog w h N vs ps) : RVs prog w h N vs.reverse ps.reverse := by
  induction ps generalizing vs with
  | nil => cases r; exact .nil
  | cons q ps ih => cases r with | cons a b => simpa using RVs.append (ih b) (.cons a .nil)
theorem RVs.one {v : Value} {p : PV} (a : RV prog w h N v p) : RVs prog w h N [v] [p] := .cons a .nil
theorem RVs.rep {vs : List Value} {ps : List PV} (r : RVs prog w h N vs ps) : ∀ k : Nat, RVs prog w h N (List.replicate k vs).flatten (List.replicate k ps).flatten
  | 0 => .nil
  | k + 1 => by simpa [List.replicate_succ] using RVs.append r (RVs.rep r k)
end
inductive RT (prog : Program) (w : World) (h : Heap) (N : Addr -> Prop) : Value -> PV -> Prop
  | none : RT prog w h N .none .none
  | bool (b : Bool) : RT prog w h N (.bool b) (.bool b)
  | int (n : Int) (t : Tok) : RT prog w h N (.int n t) (.int n)
  | flt (x : UInt64) (t : Tok) : t ≠ 0 -> RT prog w h N (.float x t) (.flt x)
  | str (s : Str) (t : Tok) : RT prog w h N (.str s t) (.str s)
  | tup {a : Addr} {vs : List Value} {l : List PV} : PlainTup h a vs.toArray -> RVs prog w h N vs l -> RT prog w h N (.ref a) (.tup l)
  | lst {a : Addr} {vs : List Value} {l : List PV} : h.PlainList a vs.toArray -> RVs prog w h N vs l -> RT prog w h N (.ref a) (.lst l)
  | dcti {a : Addr} {l : List (Int × SV)} : PlainDictI prog w h a l -> RT prog w h N (.ref a) (.dcti l)
  | dcts {a : Addr} {l : List (Str × SV)} : PlainDictS prog w h a l -> RT prog w h N (.ref a) (.dcts l)
inductive RTs (prog : Program) (w : World) (h : Heap) (N : Addr -> Prop) : List Value -> List PV -> Prop
  | nil : RTs prog w h N [] []
  | cons {v : Value} {p : PV} {vs : List Value} {ps : List PV} : RT prog w h N v p -> RTs prog w h N vs ps -> RTs prog w h N (v :: vs) (p :: ps)
theorem RV.rt {prog : Program} {w : World} {h : Heap} {N : Addr -> Prop} {v : Value} {p : PV} (r : RV prog w h N v p) : RT prog w h N v p := by
  cases r with
  | none => exact .none
  | bool b => exact .bool b
  | int n t => exact .int n t
  | flt x t ht => exact .flt x t ht
  | str x t => exact .str x t
  | tup a b c => exact .tup b c
  | lst a b c => exact .lst b c
  | dcti a b => exact .dcti b
  | dcts a b => exact .dcts b
def PV.scalar : PV -> Bool
  | .tup _ => false
  | .lst _ => false
  | .dcti _ => false
  | .dcts _ => false
  | _ => true
theorem RV.of_scalar {prog : Program} {w : World} {h h' : Heap} {N N' : Addr -> Prop} {v : Value} {p : PV} (r : RV prog w h N v p) (s : p.scalar = true) : RV prog w h' N' v p := by
  cases r with
  | none => exact .none
  | bool b => exact .bool b
  | int n t => exact .int n t
  | flt x t ht => exact .flt x t ht
  | str x t => exact .str x t
  | tup => cases s
  | lst => cases s
  | dcti => cases s
  | dcts => cases s
structure Ext (s : Shared) (N : Addr -> Prop) (s' : Shared) (N' : Addr -> Prop) : Prop where
  step : Step s.heap N s'.heap N'
  gens : ∀ (i : Nat) (g : GenState), s.gens[i]? = some g -> s'.gens[i]? = some g
  bare : AllBare s.gens -> AllBare s'.gens
  os : s'.os = s.os
  drawn : s'.drawn = s.drawn
  toks : s.toks <= s'.toks
theorem Ext.refl (s : Shared) (N : Addr -> Prop) : Ext s N s N := ⟨Step.refl _ _, fun _ _ e => e, fun x => x, rfl, rfl, Nat.le_refl _⟩
theorem Ext.trans {s s' s'' : Shared} {N N' N'' : Addr -> Prop} (a : Ext s N s' N') (b : Ext s' N' s'' N'') : Ext s N s'' N'' :=
  ⟨a.step.trans b.step, fun i g e => b.gens i g (a.gens i g e), fun x => b.bare (a.bare x), b.os.trans a.os, b.drawn.trans a.drawn, Nat.le_trans a.toks b.toks⟩
def No0 : Addr -> Prop := fun _ => False
abbrev Pure (s s' : Shared) : Prop := Ext s No0 s' No0
theorem Pure.keep {s s' : Shared} (x : Pure s s') : ∀ b o, s.heap.get? b = some o -> s'.heap.get? b = some o := fun b o e => x.step.keep b o (fun q => q) e
theorem Pure.stepAt {s s' : Shared} (x : Pure s s') (N : Addr -> Prop) : Step s.heap N s'.heap N := Step.of_keeps x.keep x.step.grow
theorem Pure.toks (s : Shared) {t : Nat} (ht : s.toks <= t := by omega) : Pure s { s with toks := t } := ⟨Step.refl _ _, fun _ _ e => e, fun x => x, rfl, rfl, ht⟩
theorem Pure.push (s : Shared) (o : Obj) {t : Nat} (ht : s.toks <= t := by omega) : Pure s { s with heap := s.heap.push o, toks := t } :=
  ⟨⟨fun _ _ _ e => Heap.get?_push_of_some _ e, by simp [Heap.size_push], fun _ q => q.elim⟩, fun _ _ e => e, fun x => x, rfl, rfl, ht⟩
theorem Pure.of_heap {s : Shared} {h : Heap} {t : Nat} (k : ∀ b o, s.heap.get? b = some o -> h.get? b = some o) (g : s.heap.objs.size <= h.objs.size) (ht : s.toks <= t := by omega) : Pure s { s with heap := h, toks := t } :=
  ⟨Step.of_keeps k g, fun _ _ e => e, fun x => x, rfl, rfl, ht⟩
structure Room (A : Around) (k : Nat) : Prop where
  hh : A.handled = Option.none
  depth : A.depth + k < 900
  units : A.units + 8 * k < 9000
theorem Room.le {A : Around} {k j : Nat} (r : Room A k) (h : j <= k) : Room A j := ⟨r.hh, by have := r.depth; omega, by have := r.units; omega⟩
theorem Room.lim {A : Around} {k : Nat} (r : Room A k) : A.depth < recursionLimit := by have := r.depth; unfold recursionLimit; omega
theorem Room.line {A : Around} {k : Nat} (r : Room A k) : A.units < cLine := by have := r.units; unfold cLine; omega
end Mine
end
section
open PySem PySem.W PyProof.Rows
namespace Mine
def smallI (x : Int) : Bool := decide (-(2 ^ 62) < x) && decide (x < 2 ^ 62)
def okF (n : Int) : Bool := !Float64.isInf (Float64.ofInt n)
def binF : Operator -> PV -> PV -> Option PV
  | .Add, .int x, .int y => some (.int (x + y))
  | .Sub, .int x, .int y => some (.int (x - y))
  | .Mult, .int x, .int y => if smallI x then some (.int (x * y)) else none
  | .FloorDiv, .int x, .int y => if 0 < y /\ y < 1000000000 then some (.int (x / y)) else none
  | .Mod, .int x, .int y => if 0 < y then some (.int (x % y)) else none
  | .Pow, .int x, .int y => if 2 <= x /\ x < 100 /\ 0 <= y /\ y < 100 then some (.int (x ^ y.toNat)) else none
  | .Div, .int x, .int y => if 0 < y /\ Float64.isInf (Float64.ofFrac (decide (x < 0) != decide (y < 0)) x.natAbs y.natAbs) = false then some (.flt (Float64.ofFrac (decide (x < 0) != decide (y < 0)) x.natAbs y.natAbs)) else none
  | .Add, .flt x, .flt y => some (.flt (Float64.add x y))
  | .Sub, .flt x, .flt y => some (.flt (Float64.sub x y))
  | .Mult, .flt x, .flt y => some (.flt (Float64.mul x y))
  | .Div, .flt x, .flt y => if Float64.isZero y then none else some (.flt (Float64.div x y))
  | .Mod, .flt x, .flt y => if Float64.isZero y then none else some (.flt (Float64.divmod x y).2)
  | .Add, .flt x, .int y => if okF y then some (.flt (Float64.add x (Float64.ofInt y))) else none
  | .Add, .int x, .flt y => if okF x then some (.flt (Float64.add (Float64.ofInt x) y)) else none
  | .Sub, .flt x, .int y => if okF y then some (.flt (Float64.sub x (Float64.ofInt y))) else none
  | .Sub, .int x, .flt y => if okF x then some (.flt (Float64.sub (Float64.ofInt x) y)) else none
  | .Mult, .flt x, .int y => if okF y then some (.flt (Float64.mul x (Float64.ofInt y))) else none
  | .Mult, .int x, .flt y => if okF x then some (.flt (Float64.mul (Float64.ofInt x) y)) else none
  | .Div, .flt x, .int y => if okF y && !Float64.isZero (Float64.ofInt y) then some (.flt (Float64.div x (Float64.ofInt y))) else none
  | .Add, .str x, .str y => if x.length + y.length <= 100000 then some (.str (x ++ y)) else none
  | .Mult, .str x, .int y => if x.length <= 1000 /\ y < 1000 /\ -1000 < y then some (.str ⟨(List.replicate y.toNat x.cps.toList).flatten.toArray⟩) else none
  | .Add, .lst x, .lst y => if x.length + y.length <= 100000 then some (.lst (x ++ y)) else none
  | .Mult, .lst x, .int y => if x.length <= 1000 /\ y < 1000 /\ -1000 < y then some (.lst (List.replicate y.toNat x).flatten) else none
  | .Mult, .tup x, .int y => if x.length = 1 /\ (y = 3 \/ y = 4) then some (.tup (List.replicate y.toNat x).flatten) else none
  | .Add, .tup x, .tup y => if x.length + y.length <= 100000 /\ x.isEmpty = false /\ y.isEmpty = false then some (.tup (x ++ y)) else none
  | _, _, _ => none
def FreshL (prog : Program) (w : World) (h h' : Heap) (N : Addr -> Prop) (v : Value) (l : List PV) : Prop :=
  ∃ (a : Addr) (vs : List Value), v = .ref a /\ h.objs.size <= a /\ h'.PlainList a vs.toArray /\ RVs prog w h' (fun b => N b \/ b = a) vs l
def Res (prog : Program) (w : World) (s s' : Shared) (N : Addr -> Prop) (v : Value) (r : PV) : Prop :=
  RV prog w s'.heap N v r /\ ∀ l, r = .lst l -> FreshL prog w s.heap s'.heap N v l
theorem Res.of_scalar {prog : Program} {w : World} {s s' : Shared} {N : Addr -> Prop} {v : Value} {r : PV} (x : RV prog w s'.heap N v r) (h : ∀ l, r ≠ .lst l) : Res prog w s s' N v r := ⟨x, fun l e => absurd e (h l)⟩
def Low (N : Addr -> Prop) (h : Heap) : Prop := ∀ b, N b -> b < h.objs.size
theorem RVs.avoid {prog : Program} {w : World} {h h' : Heap} {N : Addr -> Prop} (k : ∀ b o, h.get? b = some o -> h'.get? b = some o) (g : h.objs.size <= h'.objs.size) {vs : List Value} {l : List PV} (r : RVs prog w h N vs l) {a : Addr} (ha : h.objs.size <= a) : RVs prog w h' (fun b => N b \/ b = a) vs l :=
  r.step ⟨fun b o _ e => k b o e, g, fun b hb => hb.elim .inl fun e => .inr (e ▸ ha)⟩
section
variable {prog : Program} {w : World} {A : Around} {E : Value -> Shared -> Prop} {s : Shared} {N : Addr -> Prop}
theorem newList_res {Q : Value -> Shared -> Prop} {vs : List Value} {l : List PV} (hN : Low N s.heap) (r : RVs prog w s.heap N vs l) {t : Nat} (ht : s.toks <= t)
    (h : ∀ v s', Pure s s' -> Res prog w s s' N v (.lst l) -> Q v s') : Q (.ref s.heap.objs.size) { s with heap := s.heap.push { cls := .type "list", data := .seq vs.toArray }, toks := t } := by
  have hk : ∀ b o, s.heap.get? b = some o -> (s.heap.push { cls := .type "list", data := .seq vs.toArray }).get? b = some o := fun _ _ e => Heap.get?_push_of_some _ e; have hg : s.heap.objs.size <= (s.heap.push { cls := .type "list", data := .seq vs.toArray }).objs.size := by simp [Heap.size_push]
  have hp : (s.heap.push { cls := .type "list", data := .seq vs.toArray }).PlainList s.heap.objs.size vs.toArray := ⟨0, Heap.get?_push_size _ rfl⟩; refine h _ _ (Pure.push _ _ ht) ⟨.lst (fun hn => Nat.lt_irrefl _ (hN _ hn)) hp (r.step (Step.of_keeps hk hg)), fun l' e => ?_⟩; cases e; exact ⟨_, vs, rfl, Nat.le_refl _, hp, r.avoid hk hg (Nat.le_refl _)⟩
theorem newTup_res {Q : Value -> Shared -> Prop} {vs : List Value} {l : List PV} (hN : Low N s.heap) (r : RVs prog w s.heap N vs l) {t : Nat} (ht : s.toks <= t)
    (h : ∀ v s', Pure s s' -> Res prog w s s' N v (.tup l) -> Q v s') : Q (.ref s.heap.objs.size) { s with heap := s.heap.push { cls := .type "tuple", data := .seq vs.toArray }, toks := t } := by
  have hk : ∀ b o, s.heap.get? b = some o -> (s.heap.push { cls := .type "tuple", data := .seq vs.toArray }).get? b = some o := fun _ _ e => Heap.get?_push_of_some _ e; have hg : s.heap.objs.size <= (s.heap.push { cls := .type "tuple", data := .seq vs.toArray }).objs.size := by simp [Heap.size_push]
  have hp : PlainTup (s.heap.push { cls := .type "tuple", data := .seq vs.toArray }) s.heap.objs.size vs.toArray := ⟨0, Heap.get?_push_size _ rfl⟩; exact h _ _ (Pure.push _ _ ht) ⟨.tup (fun hn => Nat.lt_irrefl _ (hN _ hn)) hp (r.step (Step.of_keeps hk hg)), fun l' e => by cases e⟩
theorem smallI_iff {x : Int} (h : smallI x = true) : -(2 ^ 62) < x /\ x < 2 ^ 62 := by
  unfold smallI at h; simp only [Bool.and_eq_true, decide_eq_true_eq] at h; exact h
theorem foldl_append_arr {α : Type} (xs : Array α) : ∀ (n : Nat) (acc : Array α), (List.replicate n xs).foldl (· ++ ·) acc = acc ++ (List.replicate n xs.toList).flatten.toArray
  | 0, acc => by simp
  | n + 1, acc => by
    rw [List.replicate_succ, List.foldl_cons, foldl_append_arr xs n, List.replicate_succ, List.flatten_cons]; apply Array.ext'; simp
theorem scal_flt {s s' : Shared} {x : UInt64} {t : Tok} (ht : 0 < t) : Res prog w s s' N (.float x t) (.flt x) := .of_scalar (.flt x t (Nat.ne_of_gt ht)) fun _ e => by cases e
theorem scal_int {s s' : Shared} {x : Int} {t : Tok} : Res prog w s s' N (.int x t) (.int x) := .of_scalar (.int x t) fun _ e => by cases e
theorem scal_str {s s' : Shared} {x : Str} {t : Tok} : Res prog w s s' N (.str x t) (.str x) := .of_scalar (.str x t) fun _ e => by cases e
set_option maxHeartbeats 1600000 in
set_option maxRecDepth 100000 in
theorem tuple_mul3 (l : Addr) (v : Value) (n : Nat) (u : Tok) :
    Meets (Builtin.«tuple.__mul__» ⟨[.ref l, .int 3 u], []⟩) (fun _ R s => s.heap.get? l = some { cls := .type "tuple", dict := none, data := .seq #[v] n, slots := #[] } /\
      R (.ok (.ret (.ref s.heap.objs.size))) { s with heap := s.heap.push { cls := .type "tuple", data := .seq #[v, v, v] }, toks := s.toks }) :=
  .of_wp fun prog w A R s h => by
    obtain ⟨hp, g, d, tk, os⟩ := s; obtain ⟨hl, h⟩ := h; wp_walk; exact ⟨_, rfl, h⟩
set_option maxRecDepth 100000 in
theorem tuple_mul4 (l : Addr) (v : Value) (n : Nat) (u : Tok) :
    Meets (Builtin.«tuple.__mul__» ⟨[.ref l, .int 4 u], []⟩) (fun _ R s => s.heap.get? l = some { cls := .type "tuple", dict := none, data := .seq #[v] n, slots := #[] } /\
      R (.ok (.ret (.ref s.heap.objs.size))) { s with heap := s.heap.push { cls := .type "tuple", data := .seq #[v, v, v, v] }, toks := s.toks }) :=
  .of_wp fun prog w A R s h => by
    obtain ⟨hp, g, d, tk, os⟩ := s; obtain ⟨hl, h⟩ := h; wp_walk; exact ⟨_, rfl, h⟩
set_option maxRecDepth 100000 in
theorem int_rmul_tuple (a : Int) (t : Tok) (l : Addr) (items : Array Value) (n : Nat) :
    Meets (Builtin.«int.__rmul__» ⟨[.int a t, .ref l], []⟩) (fun _ R s => s.heap.get? l = some { cls := .type "tuple", dict := none, data := .seq items n, slots := #[] } /\ R (.ok (.ret Value.notImplemented)) s) :=
  .of_wp fun prog w A R s h => by obtain ⟨hp, g, d, tk, os⟩ := s; obtain ⟨hl, h⟩ := h; wp_walk; exact ⟨_, rfl, h⟩
theorem noFill_tuple_mul : fillsNumberSlot (.type "tuple") "mul" = pure false :=
  PySem.fillsNumberSlot_seq (id := "tuple.__mul__") (r := some (.builtin "tuple.__rmul__")) F.slot_tuple_mul.lookup (by decide +kernel) F.slot_tuple_rmul.lookup (by decide +kernel)
theorem repeat_tuple : seqRepeat? (.type "tuple") = pure (some (.builtin "tuple.__mul__")) := by
  unfold seqRepeat?; rw [PySem.seqSlot_of (T := "tuple") (name := "__mul__") (id := "tuple.__mul__") F.slot_tuple_mul.lookup (by decide +kernel), PySem.seqSlot_of (T := "tuple") (name := "__rmul__") (id := "tuple.__rmul__") F.slot_tuple_rmul.lookup (by decide +kernel)]; rfl
theorem bin_sound {op : Operator} {a b : Value} {p q r : PV} {Q : Value -> Shared -> Prop} {k : Nat} (R : Room A k) (hT : 0 < s.toks) (hN : Low N s.heap) (ra : RT prog w s.heap N a p) (rb : RT prog w s.heap N b q) (h : binF op p q = some r)
    (hQ : ∀ v s', Pure s s' -> Res prog w s s' N v r -> Q v s') : wpAny (model prog w) A (binaryOp op a b) Q E s := by
  unfold binF at h; split at h
  all_goals (try (cases h; done))
  · cases ra; cases rb; cases h; exact AutoIntOps.add_0 (hQ _ _ (Pure.toks _) scal_int)
  · cases ra; cases rb; cases h; exact AutoIntOps.sub_0 (hQ _ _ (Pure.toks _) scal_int)
  · cases ra; cases rb; split at h <;> cases h; rename_i hs; have := smallI_iff hs; exact PyProof.Rows.mul_int (hm := IntMulOk.of_left (intBits_le_64 (by omega) (by omega))) (hQ _ _ (Pure.toks _) scal_int)
  · rename_i x y; cases ra; cases rb; split at h <;> cases h; rename_i hs; refine floordiv_int (by omega) ?_ (Or.inl (PyProof.noPylong_small (by omega))); rw [Int.fdiv_eq_ediv_of_nonneg _ (by omega)]; exact hQ _ _ (Pure.toks _) scal_int
  · cases ra; cases rb; split at h <;> cases h; refine PyProof.Rows.mod_int (by omega) ?_; rw [Int.fmod_eq_emod_of_nonneg _ (by omega)]; exact hQ _ _ (Pure.toks _) scal_int
  · rename_i x y; cases ra; cases rb; split at h <;> cases h; rename_i hs
    by_cases hy0 : y = 0
    · subst hy0; exact AutoIntOps.pow_0 (by omega) (by decide) (hQ _ _ (Pure.toks _) (by simpa using scal_int))
    refine AutoIntOps.pow_4 (by omega) (by simp; omega) (by simp; omega) (by simp; omega) ?_ (hQ _ _ (Pure.toks _) scal_int); have h1 : Builtin.Int.intBits x <= 64 := intBits_le_64 (by omega) (by omega); have h2 : ((Builtin.Int.intBits x : Nat) : Int) * y <= 64 * 100 := Int.mul_le_mul (by omega) (by omega) (by omega) (by omega); unfold Builtin.Int.intTooBig bitsLine; simp only [gt_iff_lt, decide_eq_true_eq, Int.not_lt]; omega
  · rename_i x y; cases ra; cases rb; split at h <;> cases h; rename_i hs; exact AutoIntOps.truediv_2 (by simp; omega) (by rw [hs.2]; simp) (hQ _ _ (Pure.toks _) (scal_flt hT))
  · cases ra; cases rb; cases h; exact AutoFloatOps.add_0 (hQ _ _ (Pure.toks _) (scal_flt hT))
  · cases ra; cases rb; cases h; exact AutoFloatOps.sub_0 (hQ _ _ (Pure.toks _) (scal_flt hT))
  · cases ra; cases rb; cases h; exact AutoFloatOps.mul_0 (hQ _ _ (Pure.toks _) (scal_flt hT))
  · cases ra; cases rb; split at h <;> cases h; rename_i hs; exact AutoFloatOps.truediv_1 hs (hQ _ _ (Pure.toks _) (scal_flt hT))
  · cases ra; cases rb; split at h <;> cases h; rename_i hs; exact AutoFloatOps.mod_1 hs (hQ _ _ (Pure.toks _) (scal_flt hT))
  · cases ra; cases rb; split at h <;> cases h; rename_i hs; refine AutoFloatOpsIf.add_fi ?_; rw [if_neg (by simpa [okF] using hs)]; exact hQ _ _ (Pure.toks _) (scal_flt hT)
  · cases ra; cases rb; split at h <;> cases h; rename_i hs; refine AutoFloatOpsIf.add_if ?_; rw [if_neg (by simpa [okF] using hs)]; exact hQ _ _ (Pure.toks _) (scal_flt hT)
  · cases ra; cases rb; split at h <;> cases h; rename_i hs; refine AutoFloatOpsIf.sub_fi ?_; rw [if_neg (by simpa [okF] using hs)]; exact hQ _ _ (Pure.toks _) (scal_flt hT)
  · cases ra; cases rb; split at h <;> cases h; rename_i hs; refine AutoFloatOpsIf.sub_if ?_; rw [if_neg (by simpa [okF] using hs)]; exact hQ _ _ (Pure.toks _) (scal_flt hT)
  · cases ra; cases rb; split at h <;> cases h; rename_i hs; refine AutoFloatOpsIf.mul_fi ?_; rw [if_neg (by simpa [okF] using hs)]; exact hQ _ _ (Pure.toks _) (scal_flt hT)
  · cases ra; cases rb; split at h <;> cases h; rename_i hs; refine AutoFloatOpsIf.mul_if ?_; rw [if_neg (by simpa [okF] using hs)]; exact hQ _ _ (Pure.toks _) (scal_flt hT)
  · cases ra; cases rb; split at h <;> cases h; rename_i hs; simp only [okF, Bool.and_eq_true, Bool.not_eq_true'] at hs; refine AutoFloatOpsIf.truediv_fi ?_; rw [if_neg (by simp [hs.1]), if_neg (by simp [hs.2])]; exact hQ _ _ (Pure.toks _) (scal_flt hT)
  · rename_i x y; cases ra; cases rb; split at h <;> cases h; rename_i hs; refine P.add_str ?_; split
    · rename_i hx; have : x ++ y = y := by
        apply Str.ext'; have hx' : x.cps.size = 0 := by simpa [Str.length] using hx
        simp [Str.cps_append, Array.eq_empty_of_size_eq_zero hx']
      rw [this] at hQ; exact hQ _ _ (Ext.refl _ _) scal_str
    · split
      · rename_i hy; have : x ++ y = x := by
          apply Str.ext'; have hy' : y.cps.size = 0 := by simpa [Str.length] using hy
          simp [Str.cps_append, Array.eq_empty_of_size_eq_zero hy']
        rw [this] at hQ; exact hQ _ _ (Ext.refl _ _) scal_str
      · refine ⟨?_, hQ _ _ (Pure.toks _) scal_str⟩; rw [Str.length_append]; unfold sizeLine; omega
  · rename_i x y; cases ra; cases rb; split at h <;> cases h; rename_i hs; refine P.mul_str (by simp; omega) ?_ ?_ ?_
    · intro h1 h2; have : (1000 : Int) <= (2 ^ 63 - 1) / y := by
        rw [Int.le_ediv_iff_mul_le (by omega)]; omega
      omega
    · intro h1 h2; have h3 : x.length * y.toNat <= 1000 * 1000 := Nat.mul_le_mul (by omega) (by omega); simp only [Builtin.Str.tooLong, sizeLine, gt_iff_lt, decide_eq_false_iff_not, Nat.not_lt]; omega
    · split
      · rename_i h1; have : (List.replicate y.toNat x.cps.toList).flatten.toArray = #[] := by rw [show y.toNat = 0 by omega]; rfl
        rw [this] at hQ; exact ⟨by show 0 <= _; omega, hQ _ _ (Pure.toks _) scal_str⟩
      · split
        · rename_i h1 h2; have : Str.mk (List.replicate y.toNat x.cps.toList).flatten.toArray = x := by
            simp only [Bool.or_eq_true, beq_iff_eq] at h2; rcases h2 with h2 | h2
            · subst h2; apply Str.ext'; simp
            · have hx' : x.cps = #[] := Array.eq_empty_of_size_eq_zero (by simpa [Str.length] using h2); apply Str.ext'; simp [hx']
          rw [this] at hQ; exact hQ _ _ (Ext.refl _ _) scal_str
        · have h3 : x.length * y.toNat <= 1000 * 1000 := Nat.mul_le_mul (by omega) (by omega); have : (List.replicate y.toNat x.cps).foldl (· ++ ·) #[] = (List.replicate y.toNat x.cps.toList).flatten.toArray := by
            rw [foldl_append_arr]; simp
          rw [this]; refine ⟨?_, hQ _ _ (Pure.toks _) scal_str⟩; have : ((List.replicate y.toNat x.cps.toList).flatten).length = y.toNat * x.cps.size := by simp
          simp only [Str.length, List.size_toArray, this] at h3 ⊢; rw [Nat.mul_comm]; unfold sizeLine; omega
  · cases ra with
    | lst pa rsa =>
    cases rb with
    | lst pb rsb =>
    split at h <;> cases h; rename_i hs; obtain ⟨n1, e1⟩ := pa; obtain ⟨n2, e2⟩ := pb; refine P.add_list e1 e2 ?_ (by have := rsa.length; have := rsb.length; simp only [List.size_toArray, sizeLine]; omega); have := newList_res (t := s.toks) hN (rsa.append rsb) (Nat.le_refl _) hQ
    simpa using this
  · rename_i x y; cases ra with
    | @lst _ vs _ pa rsa =>
    cases rb; split at h <;> cases h; rename_i hs; obtain ⟨n1, e1⟩ := pa; have hlen := rsa.length; have h3 : vs.length * y.toNat <= 1000 * 1000 := Nat.mul_le_mul (by omega) (by omega); refine wpAny_binaryOp_repeat_ref (T := "list") (U := "int") (by decide) ⟨_, e1, rfl⟩ (fun s' => typeIs_int s' _ _) noFill_list_mul F.fills_int_mul F.slot_int_rmul repeat_list F.slot_int_index.lookup
      (call_meets F.slot_int_rmul (typeIs_int s _ _) F.entry_int_rmul (F.args_int_rmul_2 _ _) (int___rmul___int_list _ _ _ _ _)
        ⟨e1, rfl, ⟨_, e1, rfl⟩, call_meets F.slot_list_mul ⟨_, e1, rfl⟩ F.entry_list_mul (F.args_list_mul_2 _ _)
          (AutoListH.list___mul___list_int_3 _ _ _ _ _ (by simp [Builtin.List.listFitsIndex]; omega) (by simp; omega) (by simp [Builtin.List.listTooLong, sizeLine]; omega))
          ⟨e1, ?_⟩⟩)
    have := newList_res (t := s.toks) hN (rsa.rep y.toNat) (Nat.le_refl _) hQ; have e : (List.foldl (fun x1 x2 => x1 ++ x2) #[] (List.replicate (if vs.toArray.isEmpty = true then 0 else y.toNat) vs.toArray)) = (List.replicate y.toNat vs).flatten.toArray := by
      rw [foldl_append_arr]; cases vs with
      | nil => simp
      | cons v vs => simp
    rw [e]; exact this
  · rename_i x y; cases ra with
    | @tup _ vs _ pa rsa =>
    cases rb; split at h <;> cases h; rename_i hs; obtain ⟨n1, e1⟩ := pa; have hlen := rsa.length; obtain ⟨v, rfl⟩ : ∃ v, vs = [v] := List.length_eq_one_iff.mp (by rw [hlen]; exact hs.1); obtain ⟨p, rfl⟩ : ∃ p, x = [p] := List.length_eq_one_iff.mp hs.1; have key := newTup_res (t := s.toks) hN (rsa.rep y.toNat) (Nat.le_refl _) hQ; rcases hs.2 with rfl | rfl
    · refine wpAny_binaryOp_repeat_ref (T := "tuple") (U := "int") (by decide) ⟨_, e1, rfl⟩ (fun s' => typeIs_int s' _ _) noFill_tuple_mul F.fills_int_mul F.slot_int_rmul repeat_tuple F.slot_int_index.lookup
        (call_meets F.slot_int_rmul (typeIs_int s _ _) F.entry_int_rmul (F.args_int_rmul_2 _ _) (int_rmul_tuple _ _ _ _ _)
          ⟨e1, rfl, ⟨_, e1, rfl⟩, call_meets F.slot_tuple_mul ⟨_, e1, rfl⟩ F.entry_tuple_mul (F.args_tuple_mul_2 _ _) (tuple_mul3 _ _ _ _) ⟨e1, ?_⟩⟩)
      exact key
    · refine wpAny_binaryOp_repeat_ref (T := "tuple") (U := "int") (by decide) ⟨_, e1, rfl⟩ (fun s' => typeIs_int s' _ _) noFill_tuple_mul F.fills_int_mul F.slot_int_rmul repeat_tuple F.slot_int_index.lookup
        (call_meets F.slot_int_rmul (typeIs_int s _ _) F.entry_int_rmul (F.args_int_rmul_2 _ _) (int_rmul_tuple _ _ _ _ _)
          ⟨e1, rfl, ⟨_, e1, rfl⟩, call_meets F.slot_tuple_mul ⟨_, e1, rfl⟩ F.entry_tuple_mul (F.args_tuple_mul_2 _ _) (tuple_mul4 _ _ _ _) ⟨e1, ?_⟩⟩)
      exact key
  · rename_i x y; cases ra with
    | tup pa rsa =>
    cases rb with
    | tup pb rsb =>
    split at h <;> cases h; rename_i hs; obtain ⟨n1, e1⟩ := pa; obtain ⟨n2, e2⟩ := pb; have l1 := rsa.length; have l2 := rsb.length; refine P.add_tuple e1 e2 ?_ ?_ ?_ (by simp only [List.size_toArray, sizeLine]; omega)
    · have := hs.2.1; intro he; simp only [List.isEmpty_eq_false_iff] at this; simp at he; subst he; cases x with
      | nil => exact this rfl
      | cons => simp at l1
    · have := hs.2.2; intro he; simp only [List.isEmpty_eq_false_iff] at this; simp at he; subst he; cases y with
      | nil => exact this rfl
      | cons => simp at l2
    · have := newTup_res (t := s.toks) hN (rsa.append rsb) (Nat.le_refl _) hQ
      simpa using this
end
end Mine
end
section
open PySem PySem.W PyProof.Rows
namespace Mine
def eqsF (f : PV -> PV -> Option Bool) : List PV -> List PV -> Option Bool
  | [], [] => some true
  | a :: l, b :: m => match f a b, eqsF f l m with
    | some x, some y => some (x && y)
    | _, _ => none
  | [], _ :: _ => some false
  | _ :: _, [] => some false
def eqF : Nat -> PV -> PV -> Option Bool
  | _, .none, .none => some true
  | _, .bool a, .bool b => some (a == b)
  | _, .int a, .int b => some (a == b)
  | _, .str a, .str b => some (a == b)
  | _, .flt a, .flt b => if Float64.cmp a b == some Ordering.eq then some true else none
  | n + 1, .tup a, .tup b => if a.length == b.length then eqsF (eqF n) a b else none
  | n + 1, .lst a, .lst b => if a.length == b.length then eqsF (eqF n) a b else some false
  | _, _, _ => none
def anyF (f : PV -> Option Bool) : List PV -> Option Bool
  | [] => some false
  | a :: l => match f a, anyF f l with
    | some x, some y => some (x || y)
    | _, _ => none
def cmpF : CmpOp -> PV -> PV -> Option Bool
  | .Is, .bool a, .bool b => some (a == b)
  | .IsNot, .bool a, .bool b => some (!(a == b))
  | .Is, .none, .none => some true
  | .Is, .int _, .none => some false
  | .Eq, .flt a, .flt b => some (Float64.cmp a b == some Ordering.eq)
  | .Eq, a, b => eqF 3 a b
  | .NotEq, a, b => (eqF 3 a b).map (!·)
  | .Lt, .int a, .int b => some (decide (a < b))
  | .LtE, .int a, .int b => some (decide (a <= b))
  | .Gt, .int a, .int b => some (decide (a > b))
  | .GtE, .int a, .int b => some (decide (a >= b))
  | .Lt, .flt a, .flt b => some (Float64.cmp a b == some Ordering.lt)
  | .LtE, .flt a, .flt b => some (Float64.cmp a b == some Ordering.lt || Float64.cmp a b == some Ordering.eq)
  | .Gt, .flt a, .flt b => some (Float64.cmp a b == some Ordering.gt)
  | .GtE, .flt a, .flt b => some (Float64.cmp a b == some Ordering.gt || Float64.cmp a b == some Ordering.eq)
  | .In, .str y, .str x => some !(Builtin.Str.occurrences x y 0 x.length 1).isEmpty
  | .NotIn, .str y, .str x => some (!(!(Builtin.Str.occurrences x y 0 x.length 1).isEmpty))
  | .In, x, .tup l => if l.all PV.scalar then anyF (fun y => eqF 0 y x) l else none
  | .NotIn, x, .tup l => if l.all PV.scalar then (anyF (fun y => eqF 0 y x) l).map (!·) else none
  | .In, x, .lst l => if l.all PV.scalar then anyF (fun y => eqF 0 y x) l else none
  | .NotIn, x, .lst l => if l.all PV.scalar then (anyF (fun y => eqF 0 y x) l).map (!·) else none
  | .In, .str k, .dcts l => some (l.lookup k).isSome
  | .NotIn, .str k, .dcts l => some (!(l.lookup k).isSome)
  | _, _, _ => none
section
variable {prog : Program} {w : World} {h : Heap} {N : Addr -> Prop}
mutual
theorem eqF_self : ∀ (n : Nat) {v : Value} {p q : PV} {b : Bool}, RV prog w h N v p -> RV prog w h N v q -> eqF n p q = some b -> b = true
  | n, _, _, _, _, .none, .none, e => by cases n <;> (simp [eqF] at e; exact e)
  | n, _, _, _, _, .bool b, .bool _, e => by cases n <;> (simp [eqF] at e; exact e)
  | n, _, _, _, _, .int _ _, .int _ _, e => by cases n <;> (simp [eqF] at e; exact e)
  | n, _, _, _, _, .str _ _, .str _ _, e => by cases n <;> (simp [eqF] at e; exact e)
  | n, _, _, _, _, .flt x _ _, .flt _ _ _, e => by
    rename_i b _ _ _; have key : (if Float64.cmp x x == some Ordering.eq then some true else none) = some b := by cases n <;> exact e
    split at key
    · cases key; rfl
    · cases key
  | n, _, _, _, _, .tup _ ⟨_, e1⟩ r1, .tup _ ⟨_, e2⟩ r2, e => by
    rw [e1] at e2; simp only [Option.some.injEq, Obj.mk.injEq, Data.seq.injEq, true_and, and_true] at e2; have hv := congrArg Array.toList e2.1; simp only [List.toList_toArray] at hv; subst hv; cases n with
    | zero => simp [eqF] at e
    | succ n =>
      simp only [eqF] at e; split at e
      · exact eqsF_self n r1 r2 e
      · cases e
  | n, _, _, _, _, .lst _ ⟨_, e1⟩ r1, .lst _ ⟨_, e2⟩ r2, e => by
    rw [e1] at e2; simp only [Option.some.injEq, Obj.mk.injEq, Data.seq.injEq, true_and, and_true] at e2; have hv := congrArg Array.toList e2.1; simp only [List.toList_toArray] at hv; subst hv; cases n with
    | zero => simp [eqF] at e
    | succ n =>
      simp only [eqF] at e; split at e
      · exact eqsF_self n r1 r2 e
      · rename_i hl; exact absurd (by simpa using (r1.length.symm.trans r2.length)) hl
  | n, _, _, _, _, .tup _ ⟨_, e1⟩ r1, .lst _ ⟨_, e2⟩ r2, e => by cases n <;> simp [eqF] at e
  | n, _, _, _, _, .lst _ ⟨_, e1⟩ r1, .tup _ ⟨_, e2⟩ r2, e => by cases n <;> simp [eqF] at e
  | n, _, _, _, _, .dcti _ _, q, e => by cases n <;> simp [eqF] at e
  | n, _, _, _, _, .dcts _ _, q, e => by cases n <;> simp [eqF] at e
  | n, _, _, _, _, p, .dcti _ _, e => by cases n <;> cases p <;> simp [eqF] at e
  | n, _, _, _, _, p, .dcts _ _, e => by cases n <;> cases p <;> simp [eqF] at e
theorem eqsF_self : ∀ (n : Nat) {vs : List Value} {ps qs : List PV} {b : Bool}, RVs prog w h N vs ps -> RVs prog w h N vs qs -> eqsF (eqF n) ps qs = some b -> b = true
  | n, _, _, _, _, .nil, .nil, e => by simp [eqsF] at e; exact e
  | n, _, _, _, _, .cons a r, .cons c r', e => by
    simp only [eqsF] at e; split at e
    · rename_i x y hx hy; cases e; rw [eqF_self n a c hx, eqsF_self n r r' hy]; rfl
    · cases e
end
end
theorem Room.in1 {A : Around} {k : Nat} (r : Room A (k + 1)) : Room A.in1 k := ⟨r.hh, by have := r.depth; simp only [Around.in1_depth]; omega, by have := r.units; simp only [Around.in1_units]; omega⟩
def NoShare (h : Heap) : Prop := ∃ mc, h.Ns cStatics mc /\ mc sharingNotToldKey = none
theorem NoShare.keeps {h h' : Heap} (x : NoShare h) (k : ∀ b o, h.get? b = some o -> h'.get? b = some o) : NoShare h' := let ⟨mc, a, b⟩ := x; ⟨mc, a.keeps k, b⟩
theorem wpAny_sharing {M : Model} {A : Around} {E : Value -> Shared -> Prop} {s : Shared} {t : Tok} {Q : Bool -> Shared -> Prop} (hns : NoShare s.heap) (h : Q false s) : wpAny M A (sharingNotTold t) Q E s := by
  obtain ⟨mc, hn, hm⟩ := hns; unfold sharingNotTold; refine wpAny_bind (wpAny_nsGet hn ?_); rw [hm]; exact wpAny_pure h
open SeqAt in
theorem eqAt_float {A : Around} {s : Shared} {x y : UInt64} {t u : Tok} (hns : NoShare s.heap) (ht : t ≠ 0) (hu : u ≠ 0) (he : (Float64.cmp x y == some Ordering.eq) = true) : EqAt A s (.float x t) (.float y u) true := by
  intro prog w E Q h; unfold eqBool; refine wpAny_holding ?_; have tail : wpAny (model prog w) A (do truthOfDropped (<- richCompare .Eq (.float x t) (.float y u))) Q E s :=
    wpAny_bind (AutoFloatOps.eq_0 (Q := fun v s' => wpAny (model prog w) A (truthOfDropped v) Q E s') (wpAny_truthy_bool (by rw [he]; exact h)))
  by_cases hb : (Value.float x t == Value.float y u) = true
  · rw [if_pos hb]; exact wpAny_bind (wpAny_rule (wpAny_pure h))
  · rw [if_neg hb]; refine wpAny_bind ?_; have hz : (t == 0 || u == 0) = false := by simp [ht, hu]
    show wpAny (model prog w) A (isSame.created (x == y && !Float64.isNaN x) t u) _ E s; unfold isSame.created; rw [hz]; simp only [Bool.false_eq_true, if_false]; have both : ∀ b : Bool, wpAny (model prog w) A (if b = true then pure true else (do truthOfDropped (<- richCompare .Eq (.float x t) (.float y u)))) Q E s := by
      intro b; cases b with
      | true => exact wpAny_pure h
      | false => exact tail
    by_cases htu : (t == u) = true
    · rw [if_pos htu]; exact wpAny_pure (both true)
    · rw [if_neg htu]
      by_cases hxy : (!(x == y && !Float64.isNaN x)) = true
      · rw [if_pos hxy]; exact wpAny_pure (both false)
      · rw [if_neg hxy]; refine wpAny_bind (wpAny_sharing hns ?_); simp only [Bool.false_eq_true, if_false]; refine wpAny_bind (wpAny_sharing hns ?_); simp only [Bool.false_eq_true, if_false]; exact wpAny_bind (wpAny_rule (wpAny_bind (wpAny_askSetting (wpAny_pure (both _)))))
theorem PlainTup.isTuple {h : Heap} {a : Addr} {items : Array Value} (x : PlainTup h a items) : h.IsTuple a items := let ⟨n, e⟩ := x; ⟨_, e, rfl, n, rfl⟩
theorem eqsF_all {f : PV -> PV -> Option Bool} : ∀ {l m : List PV} {b : Bool}, l.length = m.length -> eqsF f l m = some b ->
    ∃ e : Nat -> Bool, (∀ j p q, l[j]? = some p -> m[j]? = some q -> f p q = some (e j)) /\ b = (List.range l.length).all e
  | [], [], b, _, h => by
    simp [eqsF] at h; exact ⟨fun _ => true, by simp, by simp [h]⟩
  | [], _ :: _, _, h, _ => by simp at h
  | _ :: _, [], _, h, _ => by simp at h
  | a :: l, c :: m, b, hl, h => by
    simp only [eqsF] at h; split at h
    · rename_i x y hx hy; cases h; obtain ⟨e, h1, h2⟩ := eqsF_all (by simpa using hl) hy; refine ⟨fun j => match j with | 0 => x | j + 1 => e j, ?_, ?_⟩
      · intro j p q hp hq; cases j with
        | zero => simp at hp hq; subst hp hq; exact hx
        | succ j => simp at hp hq; exact h1 j p q hp hq
      · rw [h2, List.length_cons, List.range_succ_eq_map, List.all_cons, List.all_map]; rfl
    · cases h
section
open SeqAt
variable {prog : Program} {w : World} {s : Shared} {N : Addr -> Prop}
theorem eqAt_sound (hns : NoShare s.heap) : ∀ (n : Nat) {A : Around} {v u : Value} {p q : PV} {b : Bool}, Room A n -> RV prog w s.heap N v p -> RV prog w s.heap N u q -> eqF n p q = some b -> EqAt A s v u b := by
  have str : ∀ {A : Around} (a b : Str) (t u : Tok), EqAt A s (.str a t) (.str b u) (a == b) := fun a b t u => (eqGives_str a b t u).at _ _; intro n
  induction n with
  | zero =>
    intro A v u p q b R rv ru h; cases rv <;> cases ru <;> simp [eqF] at h
    · subst h; exact EqAt.same _
    · rename_i x y; subst h; exact EqAt.bool_bool x y
    · subst h; exact EqAt.int_int _ _ _ _
    · rename_i ht _ _ hu; obtain ⟨h1, rfl⟩ := h; exact eqAt_float hns ht hu (by simpa using h1)
    · subst h; exact str _ _ _ _
  | succ n ih =>
    intro A v u p q b R rv ru h; cases rv with
    | none => cases ru <;> simp [eqF] at h; subst h; exact EqAt.same _
    | bool x => cases ru <;> simp [eqF] at h; subst h; exact EqAt.bool_bool _ _
    | int x t => cases ru <;> simp [eqF] at h; subst h; exact EqAt.int_int _ _ _ _
    | flt x t ht => cases ru <;> simp [eqF] at h; rename_i hu; obtain ⟨h1, rfl⟩ := h; exact eqAt_float hns ht hu (by simpa using h1)
    | str x t => cases ru <;> simp [eqF] at h; subst h; exact str _ _ _ _
    | @tup a vs l hna pa ra =>
      cases ru with
      | @tup c us m hnc pc rc =>
        simp only [eqF] at h; split at h
        · rename_i hl; have hl' : l.length = m.length := by simpa using hl
          by_cases hac : a = c
          · subst hac; have : b = true := eqF_self (n + 1) (.tup hna pa ra) (.tup hnc pc rc) (by simp only [eqF, hl, if_true]; exact h); subst this; exact EqAt.same _
          · obtain ⟨e, h1, h2⟩ := eqsF_all hl' h; have l1 := ra.length; have l2 := rc.length; refine EqAt.of_refs hac ?_; have := RcAt.tuples (e := e) (A := A) pa.isTuple pc.isTuple R.line (fun j h3 h4 => by
              simp only [List.size_toArray] at h3 h4; obtain ⟨v', hv', rv'⟩ := ra.get (List.getElem?_eq_getElem (by omega : j < l.length)); obtain ⟨u', hu', ru'⟩ := rc.get (List.getElem?_eq_getElem (by omega : j < m.length)); have e1 : vs.toArray[j] = v' := by simpa using (List.getElem?_eq_some_iff.mp hv').2
              have e2 : us.toArray[j] = u' := by simpa using (List.getElem?_eq_some_iff.mp hu').2
              rw [e1, e2]; exact ih R.in1 rv' ru' (h1 j _ _ (List.getElem?_eq_getElem _) (List.getElem?_eq_getElem _)))
            simp only [List.size_toArray, l1, l2, hl', Nat.min_self, beq_self_eq_true, Bool.and_true] at this; rw [h2, hl']; exact this
        · cases h
      | _ => simp [eqF] at h
    | @lst a vs l hna pa ra =>
      cases ru with
      | @lst c us m hnc pc rc =>
        have l1 := ra.length; have l2 := rc.length
        by_cases hac : a = c
        · subst hac; have : b = true := eqF_self (n + 1) (.lst hna pa ra) (.lst hnc pc rc) h; subst this; exact EqAt.same _
        · refine EqAt.of_refs hac ?_; simp only [eqF] at h; split at h
          · rename_i hl; have hl' : l.length = m.length := by simpa using hl
            obtain ⟨e, h1, h2⟩ := eqsF_all hl' h; have := RcAt.lists (e := e) (A := A) pa.isList pc.isList (by simp [l1, l2, hl']) R.line (fun j h3 h4 => by
              simp only [List.size_toArray] at h3 h4; obtain ⟨v', hv', rv'⟩ := ra.get (List.getElem?_eq_getElem (by omega : j < l.length)); obtain ⟨u', hu', ru'⟩ := rc.get (List.getElem?_eq_getElem (by omega : j < m.length)); have e1 : vs.toArray[j] = v' := by simpa using (List.getElem?_eq_some_iff.mp hv').2
              have e2 : us.toArray[j] = u' := by simpa using (List.getElem?_eq_some_iff.mp hu').2
              rw [e1, e2]; exact ih R.in1 rv' ru' (h1 j _ _ (List.getElem?_eq_getElem _) (List.getElem?_eq_getElem _)))
            simp only [List.size_toArray, l1] at this; rw [h2]; exact this
          · rename_i hl; cases h; exact RcAt.lists_lengths pa.isList pc.isList (by simp [l1, l2]; simpa using hl) R.line
      | _ => simp [eqF] at h
    | dcti _ _ => cases ru <;> simp [eqF] at h
    | dcts _ _ => cases ru <;> simp [eqF] at h
end
end Mine
end
section
open PySem PySem.W PyProof.Rows
namespace Mine
section
open SeqAt
variable {prog : Program} {w : World} {s : Shared} {N : Addr -> Prop}
theorem items_at {vs us : List Value} {l m : List PV} {e : Nat -> Bool} {A : Around} {n : Nat} (hns : NoShare s.heap) (R : Room A (n + 1)) (ra : RVs prog w s.heap N vs l) (rc : RVs prog w s.heap N us m)
    (h1 : ∀ j p q, l[j]? = some p -> m[j]? = some q -> eqF n p q = some (e j)) (j : Nat) (h3 : j < vs.toArray.size) (h4 : j < us.toArray.size) : EqAt A.in1 s vs.toArray[j] us.toArray[j] (e j) := by
  have l1 := ra.length; have l2 := rc.length; simp only [List.size_toArray] at h3 h4; obtain ⟨v', hv', rv'⟩ := ra.get (List.getElem?_eq_getElem (by omega : j < l.length)); obtain ⟨u', hu', ru'⟩ := rc.get (List.getElem?_eq_getElem (by omega : j < m.length)); have e1 : vs.toArray[j] = v' := by simpa using (List.getElem?_eq_some_iff.mp hv').2
  have e2 : us.toArray[j] = u' := by simpa using (List.getElem?_eq_some_iff.mp hu').2
  rw [e1, e2]; exact eqAt_sound hns n R.in1 rv' ru' (h1 j _ _ (List.getElem?_eq_getElem _) (List.getElem?_eq_getElem _))
theorem rcAt_sound (hns : NoShare s.heap) (n : Nat) {A : Around} {v u : Value} {p q : PV} {b : Bool} (R : Room A n) (rv : RT prog w s.heap N v p) (ru : RT prog w s.heap N u q) (h : eqF n p q = some b) : RcAt A s v u b /\ RcNeAt A s v u (!b) := by
  cases rv with
  | none =>
    cases ru <;> (try (cases n <;> simp [eqF] at h; done)); have : b = true := by cases n <;> (simp [eqF] at h; exact h)
    subst this; exact ⟨RcAt.none_none, RcNeAt.none_none⟩
  | bool x =>
    cases ru <;> (try (cases n <;> simp [eqF] at h; done)); rename_i y; have : (x == y) = b := by cases n <;> (simp only [eqF, Option.some.injEq] at h; exact h)
    subst this; exact ⟨RcAt.bool_bool _ _, RcNeAt.bool_bool _ _⟩
  | int x t =>
    cases ru <;> (try (cases n <;> simp [eqF] at h; done)); rename_i y _; have : (x == y) = b := by cases n <;> (simp only [eqF, Option.some.injEq] at h; exact h)
    subst this; exact ⟨RcAt.int_int _ _ _ _, RcNeAt.int_int _ _ _ _⟩
  | flt x t ht =>
    cases ru <;> (try (cases n <;> simp [eqF] at h; done)); rename_i y _ _; have : (Float64.cmp x y == some Ordering.eq) = true /\ b = true := by
      have key : (if Float64.cmp x y == some Ordering.eq then some true else none) = some b := by cases n <;> exact h
      split at key
      · rename_i hh; cases key; exact ⟨hh, rfl⟩
      · cases key
    obtain ⟨h1, rfl⟩ := this; refine ⟨fun prog w E Q hq => AutoFloatOps.eq_0 (by rw [h1]; exact hq), fun prog w E Q hq => AutoFloatOps.ne_0 ?_⟩; have h2 := eq_of_beq h1; rw [h2]; exact hq
  | str x t =>
    cases ru <;> (try (cases n <;> simp [eqF] at h; done)); rename_i y _; have : (x == y) = b := by cases n <;> (simp only [eqF, Option.some.injEq] at h; exact h)
    subst this; exact ⟨RcAt.str_str _ _ _ _, RcNeAt.str_str _ _ _ _⟩
  | @tup a vs l pa ra =>
    cases ru <;> (try (cases n <;> simp [eqF] at h; done)); rename_i c us m pc rc; cases n with
    | zero => simp [eqF] at h
    | succ n =>
      simp only [eqF] at h; split at h
      · rename_i hl; have hl' : l.length = m.length := by simpa using hl
        have l1 := ra.length; have l2 := rc.length; obtain ⟨e, h1, h2⟩ := eqsF_all hl' h; have t1 := RcAt.tuples (e := e) (A := A) pa.isTuple pc.isTuple R.line (items_at hns R ra rc h1); have t2 := RcNeAt.tuples (e := e) (A := A) pa.isTuple pc.isTuple R.line (items_at hns R ra rc h1); simp only [List.size_toArray, l1, l2, hl', Nat.min_self, beq_self_eq_true, Bool.and_true] at t1 t2; rw [h2, hl']; exact ⟨t1, t2⟩
      · cases h
  | @lst a vs l pa ra =>
    cases ru <;> (try (cases n <;> simp [eqF] at h; done)); rename_i c us m pc rc; cases n with
    | zero => simp [eqF] at h
    | succ n =>
      have l1 := ra.length; have l2 := rc.length; simp only [eqF] at h; split at h
      · rename_i hl; have hl' : l.length = m.length := by simpa using hl
        obtain ⟨e, h1, h2⟩ := eqsF_all hl' h; have t1 := RcAt.lists (e := e) (A := A) pa.isList pc.isList (by simp [l1, l2, hl']) R.line (items_at hns R ra rc h1); have t2 := RcNeAt.lists (e := e) (A := A) pa.isList pc.isList (by simp [l1, l2, hl']) R.line (items_at hns R ra rc h1); simp only [List.size_toArray, l1] at t1 t2; rw [h2]; exact ⟨t1, t2⟩
      · rename_i hl; cases h; have hs : (vs.toArray.size != us.toArray.size) = true := by simp [l1, l2]; simpa using hl
        exact ⟨RcAt.lists_lengths pa.isList pc.isList hs R.line, RcNeAt.lists_lengths pa.isList pc.isList hs R.line⟩
  | dcti _ => cases n <;> cases ru <;> simp [eqF] at h
  | dcts _ => cases n <;> cases ru <;> simp [eqF] at h
theorem RV.same {h : Heap} {v : Value} {p q : PV} (rp : RV prog w h N v p) (rq : RV prog w h N v q) (hs : p.scalar = true) : p = q := by
  cases rp <;> first | (cases hs; done) | (cases rq; rfl)
open Classical in
noncomputable def eqW (prog : Program) (w : World) (h : Heap) (N : Addr -> Prop) (x : PV) (y : Value) : Bool := decide (∃ p, p.scalar = true /\ RV prog w h N y p /\ eqF 0 p x = some true)
open Classical in
theorem eqW_is {x p : PV} {y : Value} {b : Bool} (rp : RV prog w s.heap N y p) (hs : p.scalar = true) (h : eqF 0 p x = some b) : eqW prog w s.heap N x y = b := by
  unfold eqW; cases b with
  | true => exact decide_eq_true ⟨p, hs, rp, h⟩
  | false =>
    refine decide_eq_false ?_
    rintro ⟨q, hq, rq, hh⟩
    have := RV.same rp rq hs; subst this; rw [h] at hh; cases hh
theorem anyF_is {x : PV} : ∀ {vs : List Value} {l : List PV} {b : Bool}, RVs prog w s.heap N vs l -> l.all PV.scalar = true -> anyF (fun y => eqF 0 y x) l = some b ->
    (∀ y ∈ vs, ∃ p, RV prog w s.heap N y p /\ eqF 0 p x = some (eqW prog w s.heap N x y)) /\ vs.any (eqW prog w s.heap N x) = b
  | _, _, _, .nil, _, h => by simp [anyF] at h; subst h; exact ⟨fun y hy => (nomatch hy), rfl⟩
  | _, _, _, .cons a r, hs, h => by
    simp only [List.all_cons, Bool.and_eq_true] at hs; simp only [anyF] at h; split at h
    · rename_i y z hy hz; cases h; obtain ⟨h1, h2⟩ := anyF_is r hs.2 hz; have h3 := eqW_is a hs.1 hy; refine ⟨fun u hu => ?_, ?_⟩
      · rcases List.mem_cons.mp hu with rfl | hu
        · exact ⟨_, a, by rw [h3]; exact hy⟩
        · exact h1 u hu
      · rw [List.any_cons, h3, h2]
    · cases h
end
section
variable {prog : Program} {w : World} {A : Around} {E : Value -> Shared -> Prop} {s : Shared} {N : Addr -> Prop}
theorem KVR.lookup {K : Type} [DecidableEq K] {k : K} : ∀ {kvs : List (K × Value)} {l : List (K × SV)}, KVR kvs l -> (valueAt kvs k = none /\ l.lookup k = none) \/ ∃ v x, valueAt kvs k = some v /\ l.lookup k = some x /\ SVR v x
  | _, _, .nil => .inl ⟨rfl, rfl⟩
  | _, _, .cons (k := c) (v := v) (a := a) (es := es) (l := l) hv r => by
    by_cases hk : c = k
    · subst hk; exact .inr ⟨v, a, by simp [valueAt], by simp, hv⟩
    · have h1 : valueAt ((c, v) :: es) k = valueAt es k := by simp [valueAt, hk]
      have h2 : List.lookup k ((c, a) :: l) = List.lookup k l := by
        rw [List.lookup_cons]; have : (k == c) = false := by simp; exact fun e => hk e.symm
        rw [this]
      rw [h1, h2]; exact KVR.lookup r
theorem rt_scalar0 {c p : PV} {a : Value} {r : Bool} (h : eqF 0 c p = some r) (ra : RT prog w s.heap N a p) : RV prog w s.heap N a p := by
  cases ra with
  | none => exact .none
  | bool b => exact .bool b
  | int n t => exact .int n t
  | flt x t ht => exact .flt x t ht
  | str x t => exact .str x t
  | tup => cases c <;> simp [eqF] at h
  | lst => cases c <;> simp [eqF] at h
  | dcti => cases c <;> simp [eqF] at h
  | dcts => cases c <;> simp [eqF] at h
theorem arr_any (f : Value -> Bool) (l : List Value) : l.toArray.any f = l.any f := by simp
set_option maxHeartbeats 1600000 in
theorem cmp_sound {op : CmpOp} {a b : Value} {p q : PV} {r : Bool} {Q : Value -> Shared -> Prop} {k : Nat} (hk : 3 <= k) (R : Room A k) (hns : NoShare s.heap) (ra : RT prog w s.heap N a p) (rb : RT prog w s.heap N b q) (h : cmpF op p q = some r)
    (hQ : ∀ s', Pure s s' -> Q (.bool r) s') : wpAny (model prog w) A (compareOp op a b) Q E s := by
  have R3 := R.le hk; have R1 := R.le (show 1 <= k by omega); unfold cmpF at h; split at h
  all_goals (try (cases h; done))
  · rename_i x y; cases ra; cases rb; cases h; have e : (Value.bool x == Value.bool y) = (x == y) := by cases x <;> cases y <;> rfl
    exact wpAny_is_plain rfl (by rw [e]; exact hQ _ (Ext.refl _ _))
  · rename_i x y; cases ra; cases rb; cases h; have e : (Value.bool x == Value.bool y) = (x == y) := by cases x <;> cases y <;> rfl
    exact wpAny_isNot_plain rfl (by rw [e]; exact hQ _ (Ext.refl _ _))
  · cases ra; cases rb; cases h; exact wpAny_is_plain rfl (by simpa using hQ _ (Ext.refl _ _))
  · cases ra; cases rb; cases h; rename_i n t; exact wpAny_is_plain rfl (by have e : (Value.int n t == Value.none) = false := rfl; rw [e]; exact hQ _ (Ext.refl _ _))
  · cases ra; cases rb; cases h; exact AutoFloatOps.eq_0 (hQ _ (Ext.refl _ _))
  · exact (rcAt_sound hns 3 R3 ra rb h).1 prog w E Q (hQ _ (Ext.refl _ _))
  · obtain ⟨x, hx, rfl⟩ := Option.map_eq_some_iff.mp h; exact (rcAt_sound hns 3 R3 ra rb hx).2 prog w E Q (hQ _ (Ext.refl _ _))
  · cases ra; cases rb; cases h; exact P.lt_int (hQ _ (Ext.refl _ _))
  · cases ra; cases rb; cases h; exact P.le_int (hQ _ (Ext.refl _ _))
  · cases ra; cases rb; cases h; exact P.gt_int (hQ _ (Ext.refl _ _))
  · cases ra; cases rb; cases h; exact P.ge_int (hQ _ (Ext.refl _ _))
  · cases ra; cases rb; cases h; exact AutoFloatOps.lt_0 (hQ _ (Ext.refl _ _))
  · cases ra; cases rb; cases h; exact AutoFloatOps.le_0 (hQ _ (Ext.refl _ _))
  · cases ra; cases rb; cases h; exact AutoFloatOps.gt_0 (hQ _ (Ext.refl _ _))
  · cases ra; cases rb; cases h; exact AutoFloatOps.ge_0 (hQ _ (Ext.refl _ _))
  · cases ra; cases rb; cases h; exact P.in_str (hQ _ (Ext.refl _ _))
  · cases ra; cases rb; cases h; exact P.notIn_str (hQ _ (Ext.refl _ _))
  · cases rb with
    | tup pb rs =>
    split at h
    · rename_i hs; obtain ⟨h1, h2⟩ := anyF_is rs hs h; refine SeqAt.in_tupleAt (eqW prog w s.heap N p) pb.isTuple (fun y hy => ?_) ?_
      · obtain ⟨c, rc, hc⟩ := h1 y (by simpa using hy); exact eqAt_sound hns 0 R1.in1 rc (rt_scalar0 hc ra) hc
      · rw [arr_any, h2]; exact hQ _ (Ext.refl _ _)
    · cases h
  · cases rb with
    | tup pb rs =>
    split at h
    · rename_i hs; obtain ⟨x, hx, rfl⟩ := Option.map_eq_some_iff.mp h; obtain ⟨h1, h2⟩ := anyF_is rs hs hx; refine SeqAt.notIn_tupleAt (eqW prog w s.heap N p) pb.isTuple (fun y hy => ?_) ?_
      · obtain ⟨c, rc, hc⟩ := h1 y (by simpa using hy); exact eqAt_sound hns 0 R1.in1 rc (rt_scalar0 hc ra) hc
      · rw [arr_any, h2]; exact hQ _ (Ext.refl _ _)
    · cases h
  · cases rb with
    | lst pb rs =>
    split at h
    · rename_i hs; obtain ⟨h1, h2⟩ := anyF_is rs hs h; refine SeqAt.in_listAt (eqW prog w s.heap N p) pb.isList (fun y hy => ?_) ?_
      · obtain ⟨c, rc, hc⟩ := h1 y (by simpa using hy); exact eqAt_sound hns 0 R1.in1 rc (rt_scalar0 hc ra) hc
      · rw [arr_any, h2]; exact hQ _ (Ext.refl _ _)
    · cases h
  · cases rb with
    | lst pb rs =>
    split at h
    · rename_i hs; obtain ⟨x, hx, rfl⟩ := Option.map_eq_some_iff.mp h; obtain ⟨h1, h2⟩ := anyF_is rs hs hx; refine SeqAt.notIn_listAt (eqW prog w s.heap N p) pb.isList (fun y hy => ?_) ?_
      · obtain ⟨c, rc, hc⟩ := h1 y (by simpa using hy); exact eqAt_sound hns 0 R1.in1 rc (rt_scalar0 hc ra) hc
      · rw [arr_any, h2]; exact hQ _ (Ext.refl _ _)
    · cases h
  · rename_i x l; cases ra with
    | str _ t =>
    cases rb with
    | dcts hd =>
    obtain ⟨hsm, kvs, hdo, hkv⟩ := hd; cases h; refine wpAny_in_of (strKind_is prog w x t) hsm hdo.mapOf ?_; rcases hkv.lookup (k := x) with ⟨h1, h2⟩ | ⟨v, y, h1, h2, _⟩
    · rw [h2] at hQ; rw [h1]; exact hQ _ (Pure.toks _)
    · rw [h2] at hQ; rw [h1]; exact hQ _ (Pure.toks _)
  · rename_i x l; cases ra with
    | str _ t =>
    cases rb with
    | dcts hd =>
    obtain ⟨hsm, kvs, hdo, hkv⟩ := hd; cases h; refine wpAny_notIn_of (strKind_is prog w x t) hsm hdo.mapOf ?_; rcases hkv.lookup (k := x) with ⟨h1, h2⟩ | ⟨v, y, h1, h2, _⟩
    · rw [h2] at hQ; rw [h1]; exact hQ _ (Pure.toks _)
    · rw [h2] at hQ; rw [h1]; exact hQ _ (Pure.toks _)
end
end Mine
end
section
open PySem PySem.W PyProof.Rows
namespace Mine
theorem runs_big {M : Model} {Γ : Ctx} {p : Pos} {t : Sem Fin} {fs : List Frame} {s s' : Shared} {e : End} (h : Runs M Γ p t fs s e s') : s.heap.objs.size <= s'.heap.objs.size := by
  induction h <;> (try simp only [Shared.setGen, Heap.size_push, Heap.size_update] at *) <;> omega
theorem returns_big {M : Model} {Γ : Ctx} {p : Pos} {s s' : Shared} {r : Result} (h : Returns M Γ p s r s') : s.heap.objs.size <= s'.heap.objs.size := runs_big h
theorem wakes_big {M : Model} {Γ : Ctx} {p : Pos} {g : Nat} {r : Resume} {s s' : Shared} {res : GenResult} (h : Wakes M Γ p g r s res s') : s.heap.objs.size <= s'.heap.objs.size := by
  unfold Wakes at h; split at h
  · exact h.elim
  · split at h
    · obtain ⟨e₁, s₁, hr, _, _, rfl⟩ := h; exact (runs_big hr : (s.setGen g .running).heap.objs.size <= s₁.heap.objs.size)
    all_goals (rw [h.2]; exact Nat.le_refl _)
  · obtain ⟨e₁, s₁, hr, _, _, rfl⟩ := h; exact (runs_big hr : (s.setGen g .running).heap.objs.size <= s₁.heap.objs.size)
  all_goals (rw [h.2]; exact Nat.le_refl _)
theorem wp_big {α : Type} (M : Model) (Γ : Ctx) (n : Nat) (t : Sem α) : ∀ (Q : α -> Pos -> Shared -> Prop) (E : Value -> Pos -> Shared -> Prop) (p : Pos) (s : Shared), n <= s.heap.objs.size -> Sem.wp M Γ t Q E p s ->
    Sem.wp M Γ t (fun a p' s' => n <= s'.heap.objs.size /\ Q a p' s') (fun e p' s' => n <= s'.heap.objs.size /\ E e p' s') p s := by
  induction t with
  | pure a => exact fun Q E p s hn h => ⟨hn, h⟩
  | raise e => exact fun Q E p s hn h => ⟨hn, h⟩
  | unsupported | finish | register | yield | fork | await => exact fun Q E p s _ h => h
  | rule _ k ih | «at» _ k ih | point _ k ih => exact fun Q E p s hn h => ih () Q E _ s hn h
  | load a _ k ih => exact fun Q E p s hn ⟨o, ho, h⟩ => ⟨o, ho, ih o Q E p s hn h⟩
  | update a _ f k ih => exact fun Q E p s hn h => ⟨h.1, ih () Q E p _ (by simpa only [Heap.size_update] using hn) h.2⟩
  | alloc o k ih => exact fun Q E p s hn h => ih _ Q E p _ (by simp only [Heap.size_push]; omega) h
  | loadIfAlive a k ih => exact fun Q E p s hn h => ih _ Q E p _ hn h
  | fresh k ih => exact fun Q E p s hn h => ih _ Q E p _ hn h
  | ask k ih => exact fun Q E p s hn h => ih _ Q E p _ hn h
  | os _ _ k ih => exact fun Q E p s hn h => ih _ Q E p _ hn h
  | handled _ k ih => exact fun Q E p s hn h => ih _ Q E p _ hn h
  | newGen _ k ih => exact fun Q E p s hn h => ih _ Q E p _ hn h
  | stack k ih => exact fun Q E p s hn h => ih _ Q E p _ hn h
  | thread k ih => exact fun Q E p s hn h => ih _ Q E p _ hn h
  | choose src m k ih => exact fun Q E p s hn h => ⟨h.1, ih _ Q E p _ hn h.2⟩
  | call c hd _ _ k ih => exact fun Q E p s hn ⟨r, s', hr, h⟩ => ⟨r, s', hr, ih r Q E p s' (Nat.le_trans hn (returns_big hr)) h⟩
  | genState g k ih => exact fun Q E p s hn ⟨st, hs, h⟩ => ⟨st, hs, ih _ Q E p s hn h⟩
  | resume g r _ k ih => exact fun Q E p s hn ⟨res, s', hw, h⟩ => ⟨res, s', hw, ih res Q E p s' (Nat.le_trans hn (wakes_big hw)) h⟩
def Mono (s s' : Shared) : Prop := s.heap.objs.size <= s'.heap.objs.size /\ s.toks <= s'.toks
theorem wpAny_mon {α : Type} {M : Model} {A : Around} {s : Shared} {t : Sem α} {Q : α -> Shared -> Prop} {E : Value -> Shared -> Prop}
    (h : wpAny M A t (fun a s' => Mono s s' -> Q a s') E s) : wpAny M A t Q E s := by
  have h1 : wpAny M A t (fun a s' => s.heap.objs.size <= s'.heap.objs.size /\ (Mono s s' -> Q a s')) (fun e s' => s.heap.objs.size <= s'.heap.objs.size /\ E e s') s :=
    fun Γ p hΓ => wp_big M Γ _ t _ _ p s (Nat.le_refl _) (h Γ p hΓ)
  have h2 := wpAny_toks h1; exact wpAny_mono h2 (fun a s' x => x.2.2 ⟨x.2.1, x.1⟩) (fun e s' x => x.2.2)
theorem Pure.mk' {s : Shared} {h : Heap} {t : Nat} (k : ∀ b o, s.heap.get? b = some o -> h.get? b = some o) (m : Mono s { s with heap := h, toks := t }) : Pure s { s with heap := h, toks := t } :=
  Pure.of_heap k m.1 m.2
def SV.pv : SV -> PV
  | .i n => .int n
  | .t x => .str x
theorem SVR.rv {prog : Program} {w : World} {h : Heap} {N : Addr -> Prop} {v : Value} {a : SV} (r : SVR v a) : RV prog w h N v a.pv := by
  cases r with
  | i n t => exact .int n t
  | t x t => exact .str x t
def ixF (k : Int) (n : Nat) : Option Nat := if -(2 ^ 62) < k /\ k < 2 ^ 62 then seqIndex? k n else none
def getF : PV -> PV -> Option PV
  | .lst l, .int k => (ixF k l.length).bind (l[·]?)
  | .tup l, .int k => (ixF k l.length).bind (l[·]?)
  | .str x, .int k => ((ixF k x.length).bind (x.cps[·]?)).map fun c => .str ⟨#[c]⟩
  | .dcts l, .str k => (l.lookup k).map SV.pv
  | .dcti l, .int k => (l.lookup k).map SV.pv
  | _, _ => none
theorem seqIx_cases {k : Int} {n j : Nat} (h : seqIndex? k n = some j) : (0 <= k /\ k < n /\ j = k.toNat) \/ (k < 0 /\ 0 <= k + n /\ j = (k + n).toNat) := by
  by_cases h0 : k < 0
  · by_cases h1 : 0 <= k + n
    · rw [MeetsSeq.seqIndex_neg h0 h1] at h; cases h; exact .inr ⟨h0, h1, rfl⟩
    · rw [MeetsSeq.seqIndex_none_lo (by omega)] at h; cases h
  · by_cases h1 : k < n
    · rw [seqIndex_of (by omega) h1] at h; cases h; exact .inl ⟨by omega, h1, rfl⟩
    · rw [MeetsSeq.seqIndex_none_hi (by omega)] at h; cases h
theorem ixF_some {k : Int} {n : Nat} {j : Nat} (h : ixF k n = some j) : -(2 ^ 62) < k /\ k < 2 ^ 62 /\ seqIndex? k n = some j := by
  unfold ixF at h; split at h
  · rename_i hc; exact ⟨hc.1, hc.2, h⟩
  · cases h
section
variable {prog : Program} {w : World} {A : Around} {E : Value -> Shared -> Prop} {s : Shared} {N : Addr -> Prop}
theorem get_list {l : Addr} {items : Array Value} {k : Int} {t : Tok} {j : Nat} {x : Value} {Q : Value -> Shared -> Prop} (hl : s.heap.PlainList l items) (h1 : -(2 ^ 62) < k) (h2 : k < 2 ^ 62) (hj : seqIndex? k items.size = some j) (hx : items[j]? = some x)
    (h : Q x s) : wpAny (model prog w) A (getItem (.ref l) (.int k t)) Q E s := by
  rcases seqIx_cases hj with ⟨h0, h3, rfl⟩ | ⟨h0, h3, rfl⟩
  · exact wpAny_getItem_list hl.isList h0 (by omega) hx h
  · exact wpAny_getItem_list_neg hl.isList h0 (by omega) (by omega) hx h
theorem get_sound {a b : Value} {p q r : PV} {Q : Value -> Shared -> Prop} {k : Nat} (R : Room A k) (ra : RT prog w s.heap N a p) (rb : RT prog w s.heap N b q) (h : getF p q = some r)
    (hT : 0 < s.toks) (hQ : ∀ v s', Pure s s' -> RV prog w s'.heap N v r -> ((∃ x, p = .str x) -> ∀ y t, v = .str y t -> t ≠ 0 /\ t < s'.toks) -> Q v s') : wpAny (model prog w) A (getItem a b) Q E s := by
  unfold getF at h; split at h
  all_goals (try (cases h; done))
  · cases ra with
    | lst pa ra =>
    cases rb; obtain ⟨j, hj, hl⟩ := Option.bind_eq_some_iff.mp h; obtain ⟨h1, h2, h3⟩ := ixF_some hj; obtain ⟨v, hv, rv⟩ := ra.get hl; exact get_list pa h1 h2 (by simpa [ra.length] using h3) (by simpa using hv) (hQ _ _ (Ext.refl _ _) rv (fun ⟨_, e⟩ => by cases e))
  · cases ra with
    | tup pa ra =>
    cases rb; obtain ⟨j, hj, hl⟩ := Option.bind_eq_some_iff.mp h; obtain ⟨h1, h2, h3⟩ := ixF_some hj; obtain ⟨v, hv, rv⟩ := ra.get hl; exact PyProof.Rows.getItem_tuple pa.isTuple (by omega) (by omega) (by simpa [ra.length] using h3) (by simpa using hv) (hQ _ _ (Ext.refl _ _) rv (fun ⟨_, e⟩ => by cases e))
  · cases ra; cases rb; obtain ⟨c, hc, rfl⟩ := Option.map_eq_some_iff.mp h; obtain ⟨j, hj, hl⟩ := Option.bind_eq_some_iff.mp hc; obtain ⟨h1, h2, h3⟩ := ixF_some hj; exact P.getItem_str (by simp; omega) (by rw [h3]; exact hl) (hQ _ _ (Pure.toks _) (.str _ _) (fun _ y t e => by cases e; exact ⟨Nat.ne_of_gt hT, Nat.lt_succ_self _⟩))
  · rename_i l x; cases ra with
    | dcts hd =>
    obtain ⟨hsm, kvs, hdo, hkv⟩ := hd; cases rb with
    | str _ t =>
    obtain ⟨y, hy, rfl⟩ := Option.map_eq_some_iff.mp h; rcases hkv.lookup (k := x) with ⟨_, h2⟩ | ⟨v, z, h1, h2, hv⟩
    · rw [hy] at h2; cases h2
    · rw [hy] at h2; cases h2; exact wpAny_getItem_of (strKind_is prog w x t) hdo.mapOf h1 (hQ _ _ (Pure.toks _) hv.rv (fun ⟨_, e⟩ => by cases e))
  · rename_i l x; cases ra with
    | dcti hd =>
    obtain ⟨hsm, kvs, hdo, hkv⟩ := hd; cases rb with
    | int _ t =>
    obtain ⟨y, hy, rfl⟩ := Option.map_eq_some_iff.mp h; rcases hkv.lookup (k := x) with ⟨_, h2⟩ | ⟨v, z, h1, h2, hv⟩
    · rw [hy] at h2; cases h2
    · rw [hy] at h2; cases h2; exact wpAny_getItem_of (intKind_is prog w x t) hdo.mapOf h1 (hQ _ _ (Pure.toks _) hv.rv (fun ⟨_, e⟩ => by cases e))
theorem filterMap_rv {vs : List Value} {l : List PV} {h : Heap} (r : RVs prog w h N vs l) : ∀ ix : List Nat, RVs prog w h N (ix.filterMap (vs[·]?)) (ix.filterMap (l[·]?))
  | [] => .nil
  | i :: ix => by
    simp only [List.filterMap_cons]; have hlen := r.length
    by_cases hi : i < l.length
    · obtain ⟨v, hv, rv⟩ := r.get (List.getElem?_eq_getElem hi); rw [hv, List.getElem?_eq_getElem hi]; exact .cons rv (filterMap_rv r ix)
    · rw [List.getElem?_eq_none (by omega), List.getElem?_eq_none (by omega)]; exact filterMap_rv r ix
def sliceIx (lo hi st : Option Int) (n : Nat) : List Nat := sliceRange (sliceBounds lo hi st n).1 (sliceBounds lo hi st n).2.1 (sliceBounds lo hi st n).2.2
def strIx (lo hi st : Option Int) (n : Nat) : List Nat := Builtin.Str.strSliceIndices lo hi (st.getD 1) n
def sliceF : PV -> Option Int -> Option Int -> Option Int -> Option PV
  | .lst l, lo, hi, st => if l.length <= 100000 /\ st ≠ some 0 then some (.lst ((sliceIx lo hi st l.length).filterMap (l[·]?))) else none
  | .str x, lo, hi, st => if st = none /\ (strIx lo hi none x.length).length <= 100000 then
      some (.str (if (strIx lo hi none x.length).length == x.length then x else ⟨((strIx lo hi none x.length).filterMap (x.cps[·]?)).toArray⟩)) else none
  | _, _, _, _ => none
inductive PartR : Value -> Option Int -> Prop
  | none : PartR .none none
  | int (i : Int) (t : Tok) : PartR (.int i t) (some i)
theorem PartR.part {v : Value} {o : Option Int} (h : PartR v o) : IsPart v o := by cases h <;> constructor
theorem PartR.pv {v : Value} {o : Option Int} (h : PartR v o) : ∃ p : Option (Int × Tok), v = partValue p /\ p.map (·.1) = o := by
  cases h with
  | none => exact ⟨Option.none, rfl, rfl⟩
  | int i t => exact ⟨some (i, t), rfl, rfl⟩
theorem slice_sound {a vl vu vs : Value} {p r : PV} {lo hi st : Option Int} {Q : Value -> Shared -> Prop} {sl : Addr} (hT : 0 < s.toks) (hN : Low N s.heap) (ra : RT prog w s.heap N a p) (hl : PartR vl lo) (hu : PartR vu hi) (hs : PartR vs st) (hsl : s.heap.get? sl = some { cls := .type "slice", data := .fields #[vl, vu, vs] }) (h : sliceF p lo hi st = some r)
    (hQ : ∀ v s', Pure s s' -> Res prog w s s' N v r -> Q v s') : wpAny (model prog w) A (getItem a (.ref sl)) Q E s := by
  unfold sliceF at h; split at h
  all_goals (try (cases h; done))
  · cases ra with
    | lst pa ra =>
    split at h
    · rename_i hc; cases h; refine wpAny_getItem_list_slice pa.isList ⟨_, hsl, rfl, rfl⟩ hl.part hu.part hs.part hc.2 ?_ (by have := ra.length; simp only [List.size_toArray, sizeLine]; omega); have hlen := ra.length; have := newList_res (t := s.toks) hN (filterMap_rv ra (sliceIx lo hi st (List.length _))) (Nat.le_refl _) hQ; have e : ∀ (us : List Value) (n : Nat), us.length = n -> slicePick us.toArray lo hi st = ((sliceIx lo hi st n).filterMap (us[·]?)).toArray := by
        intro us n hn; unfold slicePick sliceIx; simp only [List.size_toArray, hn]; have : (fun i : Nat => us.toArray[i]?) = fun i => us[i]? := by funext i; simp
        rw [this]
      rw [e _ _ hlen]; exact this
    · cases h
  · rename_i x; cases ra; split at h
    · rename_i hc; cases h; obtain ⟨rfl, hc⟩ := hc; obtain ⟨pl, rfl, el⟩ := hl.pv; obtain ⟨pu, rfl, eu⟩ := hu.pv; obtain ⟨ps, rfl, es⟩ := hs.pv; refine wpAny_getItem_str_slice (l := pl) (u := pu) (st := ps) ⟨_, hsl, rfl, rfl⟩ (by rw [es]; rfl) ?_; unfold sliceMade slicePicked; rw [el, eu, es]; simp only [Option.getD_none, beq_self_eq_true, Bool.true_and]; unfold strIx at hQ hc; simp only [Option.getD_none] at hQ hc; split
      · rename_i hh; rw [if_pos hh] at hQ; exact hQ _ _ (Ext.refl _ _) scal_str
      · rename_i hh; rw [if_neg hh] at hQ; refine ⟨?_, hQ _ _ (Pure.toks _) scal_str⟩; have := List.length_filterMap_le (fun i : Nat => x.cps[i]?) (Builtin.Str.strSliceIndices lo hi 1 x.length); simp only [Str.length, List.size_toArray, sizeLine] at this hc ⊢; refine Nat.le_trans this (by omega)
    · cases h
end
end Mine
end
section
open PySem PySem.W PyProof.Rows
namespace Mine
inductive Bi where
  | len | sum | min | max | int
  deriving DecidableEq
def isInt : PV -> Option Int
  | .int n => some n
  | _ => none
def intsOf : List PV -> Option (List Int)
  | [] => some []
  | a :: l => match isInt a, intsOf l with
    | some n, some r => some (n :: r)
    | _, _ => none
def smallS (n : Int) : Bool := decide (-(2 ^ 50) < n) && decide (n < 2 ^ 50)
def minL : List Int -> Int
  | [] => 0
  | [a] => a
  | a :: l => if minL l < a then minL l else a
def maxL : List Int -> Int
  | [] => 0
  | [a] => a
  | a :: l => if a < maxL l then maxL l else a
def gtB (a b : UInt64) : Bool := Float64.cmp a b == some Ordering.gt
def ltB (a b : UInt64) : Bool := Float64.cmp a b == some Ordering.lt
def biF : Bi -> List PV -> Option PV
  | .len, [.lst l] => if l.length <= 100000 then some (.int l.length) else none
  | .len, [.str x] => if x.length <= 100000 then some (.int x.length) else none
  | .sum, [.lst l] => match intsOf l with
    | some ns => if ns.all smallS && decide (ns.length <= 1000) then some (.int ns.sum) else none
    | none => none
  | .max, [.int a, .int b] => some (.int (if b > a then b else a))
  | .min, [.int a, .int b] => some (.int (if b < a then b else a))
  | .max, [.flt a, .flt b, .flt c] => some (.flt (if gtB b a then (if gtB c b then c else b) else (if gtB c a then c else a)))
  | .min, [.flt a, .flt b, .flt c] => some (.flt (if ltB b a then (if ltB c b then c else b) else (if ltB c a then c else a)))
  | .min, [.lst l] => match intsOf l with
    | some ns => if ns.isEmpty then none else some (.int (minL ns))
    | none => none
  | .max, [.lst l] => match intsOf l with
    | some ns => if ns.isEmpty then none else some (.int (maxL ns))
    | none => none
  | .int, [.flt x] => match Float64.decode x with
    | .fin sg m e => some (.int (Float64.truncOf sg m e))
    | _ => none
  | _, _ => none
def biV : Bi -> Value
  | .len => .builtin "len"
  | .sum => .builtin "sum"
  | .min => .builtin "min"
  | .max => .builtin "max"
  | .int => .type "int"
section
variable {prog : Program} {w : World} {A : Around} {E : Value -> Shared -> Prop} {s : Shared} {N : Addr -> Prop}
theorem intsOf_items {h : Heap} : ∀ {vs : List Value} {l : List PV} {ns : List Int}, RVs prog w h N vs l -> intsOf l = some ns -> ∃ xs : List (Int × Tok), vs = xs.map (fun p => Value.int p.1 p.2) /\ xs.map (·.1) = ns
  | _, _, _, .nil, h => by simp [intsOf] at h; subst h; exact ⟨[], rfl, rfl⟩
  | _, _, _, .cons a r, h => by
    simp only [intsOf] at h; split at h
    · rename_i n q h1 h2; cases h; obtain ⟨xs, h3, h4⟩ := intsOf_items r h2; cases a <;> simp [isInt] at h1; subst h1; exact ⟨(_, _) :: xs, by rw [h3]; rfl, by simp [h4]⟩
    · cases h
theorem listPush {Q : Value -> Shared -> Prop} {l : Addr} {items : Array Value} (hh : A.handled = Option.none) (hl : s.heap.IsList l items)
    (h : ∀ s₂, s₂ = { s with heap := s.heap.push { cls := .type "list_iterator", data := .fields #[.ref l, .int 0 0] } } -> s₂.heap.IsListIter s.heap.objs.size l 0 -> s₂.heap.IsList l items -> (∀ b ∈ [s.heap.objs.size, l], b < s₂.heap.objs.size) -> l ≠ s.heap.objs.size -> Q (.ref s.heap.objs.size) s₂) :
    wpAny (model prog w) A (pyIter (.ref l)) Q E s := by
  have hlt : l < s.heap.objs.size := by obtain ⟨o, ho, _⟩ := id hl; exact Heap.lt_size ho
  refine wpAny_pyIter_list hl (h _ rfl ⟨_, Heap.get?_push_size _ rfl, rfl, rfl⟩ (let ⟨o, ho, r⟩ := hl; ⟨o, Heap.get?_push_of_some _ ho, r⟩) ?_ (Nat.ne_of_lt hlt)); intro b hb; simp only [Heap.size_push]; rcases List.mem_cons.mp hb with rfl | hb
  · exact Nat.lt_succ_self _
  · rcases List.mem_cons.mp hb with rfl | hb
    · exact Nat.lt_succ_of_lt hlt
    · cases hb
theorem kept_old {s₂ : Shared} {o : Obj} {h' : Heap} (hk : ∀ b x, b ∉ [s.heap.objs.size] -> (s.heap.push o).get? b = some x -> h'.get? b = some x) : ∀ b x, s.heap.get? b = some x -> h'.get? b = some x :=
  fun b x e => hk b x (fun hm => by
    rw [List.mem_singleton] at hm; exact Nat.ne_of_lt (Heap.lt_size e) hm) (Heap.get?_push_of_some _ e)
theorem preSum_le {val : Nat -> Int} (hv : ∀ j, -(2 ^ 50) < val j /\ val j < 2 ^ 50) : ∀ n : Nat, n <= 2000 -> -(2 ^ 50) * (n : Int) <= preSum val n /\ preSum val n <= 2 ^ 50 * (n : Int)
  | 0, _ => by simp [preSum]
  | n + 1, h => by
    have := preSum_le hv n (by omega); have h2 := hv n; simp only [preSum]; omega
theorem preSum_list (ns : List Int) : ∀ n : Nat, preSum (fun i => ns.getD i 0) n = (ns.take n).sum
  | 0 => by simp [preSum]
  | n + 1 => by
    simp only [preSum, preSum_list ns n]
    by_cases h : n < ns.length
    · rw [List.take_add_one, List.sum_append, List.getElem?_eq_getElem h]; simp [h]
    · rw [List.take_of_length_le (by omega), List.take_of_length_le (by omega)]; simp [List.getD_eq_getElem?_getD, List.getElem?_eq_none (Nat.le_of_not_lt h)]
theorem getD_small {ns : List Int} (h : ns.all smallS = true) (j : Nat) : -(2 ^ 50) < ns.getD j 0 /\ ns.getD j 0 < 2 ^ 50 := by
  by_cases hj : j < ns.length
  · have := List.all_eq_true.mp h _ (List.getElem_mem hj); unfold smallS at this; simp only [Bool.and_eq_true, decide_eq_true_eq] at this
    simpa [hj] using this
  · simp [List.getD_eq_getElem?_getD, List.getElem?_eq_none (Nat.le_of_not_lt hj)]
theorem sum_sound {a : Addr} {vs : List Value} {l : List PV} {ns : List Int} {Q : Value -> Shared -> Prop} {k : Nat} (R : Room A k) (pa : s.heap.PlainList a vs.toArray) (ra : RVs prog w s.heap N vs l) (h1 : intsOf l = some ns) (h2 : ns.all smallS = true) (h3 : ns.length <= 1000)
    (hQ : ∀ t s', Pure s s' -> Q (.int ns.sum t) s') : wpAny (model prog w) A (call (.builtin "sum") [.ref a]) Q E s := by
  obtain ⟨xs, rfl, rfl⟩ := intsOf_items ra h1; refine wpAny_mon ?_; refine call_sum_walk (listPush (A := A.in1) R.hh pa.isList fun s₂ e hit hl hfp hne => ?_); subst e; refine ⟨_, _, _, _, _, _, fun i => (xs.map (·.1)).getD i 0, rfl, Walks.list (A := A.in1) R.hh _ a hne _, ⟨hit, hl⟩, hfp, fun i v hv => ?_, fun j _ => ?_, fun h' tk t' hk hm => ?_⟩
  · simp only [List.getElem?_toArray, List.getElem?_map, Option.map_eq_some_iff] at hv; obtain ⟨p, hp, rfl⟩ := hv; exact ⟨p.2, by simp [List.getD_eq_getElem?_getD, hp]⟩
  · rename_i hj; have hsz : j < xs.length := by simpa using hj
    have q1 := getD_small h2 j; have q2 := preSum_le (getD_small h2) (j + 1) (by simp at h3; omega); simp at h3; unfold InLong
    dsimp only
    omega
  · have : preSum (fun i => (xs.map (·.1)).getD i 0) ((List.map (fun p => Value.int p.1 p.2) xs).toArray).size = (xs.map (·.1)).sum := by
      rw [preSum_list, List.take_of_length_le (by simp)]
    rw [this]; exact hQ _ _ (Pure.mk' (kept_old (s₂ := s) hk) hm)
theorem minL_cons (a : Int) (l : List Int) (h : l ≠ []) : minL (a :: l) = if minL l < a then minL l else a := by
  cases l with
  | nil => exact absurd rfl h
  | cons b l => rfl
theorem maxL_cons (a : Int) (l : List Int) (h : l ≠ []) : maxL (a :: l) = if a < maxL l then maxL l else a := by
  cases l with
  | nil => exact absurd rfl h
  | cons b l => rfl
theorem minL_spec : ∀ (l : List Int), l ≠ [] -> minL l ∈ l /\ ∀ x ∈ l, minL l <= x
  | [], h => absurd rfl h
  | [a], _ => ⟨by simp [minL], by simp [minL]⟩
  | a :: b :: l, _ => by
    have ih := minL_spec (b :: l) (by simp); rw [minL_cons a (b :: l) (by simp)]; split
    · rename_i h; refine ⟨List.mem_cons_of_mem _ ih.1, fun x hx => ?_⟩; rcases List.mem_cons.mp hx with rfl | hx
      · omega
      · exact ih.2 x hx
    · rename_i h; refine ⟨List.mem_cons_self, fun x hx => ?_⟩; rcases List.mem_cons.mp hx with rfl | hx
      · omega
      · have := ih.2 x hx; omega
theorem maxL_spec : ∀ (l : List Int), l ≠ [] -> maxL l ∈ l /\ ∀ x ∈ l, x <= maxL l
  | [], h => absurd rfl h
  | [a], _ => ⟨by simp [maxL], by simp [maxL]⟩
  | a :: b :: l, _ => by
    have ih := maxL_spec (b :: l) (by simp); rw [maxL_cons a (b :: l) (by simp)]; split
    · rename_i h; refine ⟨List.mem_cons_of_mem _ ih.1, fun x hx => ?_⟩; rcases List.mem_cons.mp hx with rfl | hx
      · omega
      · exact ih.2 x hx
    · rename_i h; refine ⟨List.mem_cons_self, fun x hx => ?_⟩; rcases List.mem_cons.mp hx with rfl | hx
      · omega
      · have := ih.2 x hx; omega
theorem getD_at {xs : List (Int × Tok)} {i : Nat} {v : Value} (h : (List.map (fun p : Int × Tok => Value.int p.1 p.2) xs).toArray[i]? = some v) : ∃ t, v = .int ((xs.map (·.1)).getD i 0) t := by
  simp only [List.getElem?_toArray, List.getElem?_map, Option.map_eq_some_iff] at h; obtain ⟨p, hp, rfl⟩ := h; exact ⟨p.2, by simp [List.getD_eq_getElem?_getD, hp]⟩
theorem getD_mem {ns : List Int} {j : Nat} (h : j < ns.length) : ns.getD j 0 ∈ ns := by simp [h]
theorem min_sound {a : Addr} {vs : List Value} {l : List PV} {ns : List Int} {Q : Value -> Shared -> Prop} {k : Nat} (R : Room A k) (pa : s.heap.PlainList a vs.toArray) (ra : RVs prog w s.heap N vs l) (h1 : intsOf l = some ns) (h2 : ns ≠ [])
    (hQ : ∀ t s', Pure s s' -> Q (.int (minL ns) t) s') : wpAny (model prog w) A (call (.builtin "min") [.ref a]) Q E s := by
  obtain ⟨xs, rfl, rfl⟩ := intsOf_items ra h1; have hlen : 0 < (xs.map (·.1)).length := List.length_pos_iff.mpr h2; refine wpAny_mon ?_; refine call_min_walk (listPush (A := A.in1) R.hh pa.isList fun s₂ e hit hl hfp hne => ?_); subst e; refine ⟨_, _, _, _, _, _, _, rfl, Walks.list (A := A.in1) R.hh _ a hne _, ⟨hit, hl⟩, hfp, by simpa using hlen, CmpOf.ints_lt (fun i => (xs.map (·.1)).getD i 0) (fun i v hv => getD_at hv), fun v h' tk hP hk hm => ?_⟩; obtain ⟨t, rfl⟩ := getD_at hP; have hb := argBest_lt (fun i => (xs.map (·.1)).getD i 0) (((List.map (fun p : Int × Tok => Value.int p.1 p.2) xs).toArray).size - 1); simp only [List.size_toArray, List.length_map] at hb hlen ⊢; generalize argBest _ _ = j at hb; have hj : j < (xs.map (·.1)).length := by simp; omega
  have : (xs.map (·.1)).getD j 0 = minL (xs.map (·.1)) := by
    have sp := minL_spec _ h2; have h3 := sp.2 _ (getD_mem hj); obtain ⟨i, hi, e⟩ := List.getElem_of_mem sp.1; have h4 := hb.2 i (by simp at hi; omega); have e2 : (xs.map (·.1)).getD i 0 = minL (xs.map (·.1)) := by rw [List.getD_eq_getElem?_getD, List.getElem?_eq_getElem hi, e]; rfl
    omega
  rw [this]; exact hQ _ _ (Pure.mk' (kept_old (s₂ := s) hk) hm)
theorem max_sound {a : Addr} {vs : List Value} {l : List PV} {ns : List Int} {Q : Value -> Shared -> Prop} {k : Nat} (R : Room A k) (pa : s.heap.PlainList a vs.toArray) (ra : RVs prog w s.heap N vs l) (h1 : intsOf l = some ns) (h2 : ns ≠ [])
    (hQ : ∀ t s', Pure s s' -> Q (.int (maxL ns) t) s') : wpAny (model prog w) A (call (.builtin "max") [.ref a]) Q E s := by
  obtain ⟨xs, rfl, rfl⟩ := intsOf_items ra h1; have hlen : 0 < (xs.map (·.1)).length := List.length_pos_iff.mpr h2; refine wpAny_mon ?_; refine call_max_walk (listPush (A := A.in1) R.hh pa.isList fun s₂ e hit hl hfp hne => ?_); subst e; refine ⟨_, _, _, _, _, _, _, rfl, Walks.list (A := A.in1) R.hh _ a hne _, ⟨hit, hl⟩, hfp, by simpa using hlen, CmpOf.ints_gt (fun i => (xs.map (·.1)).getD i 0) (fun i v hv => getD_at hv), fun v h' tk hP hk hm => ?_⟩; obtain ⟨t, rfl⟩ := getD_at hP; have hb := argBest_gt (fun i => (xs.map (·.1)).getD i 0) (((List.map (fun p : Int × Tok => Value.int p.1 p.2) xs).toArray).size - 1); simp only [List.size_toArray, List.length_map] at hb hlen ⊢; generalize argBest _ _ = j at hb; have hj : j < (xs.map (·.1)).length := by simp; omega
  have : (xs.map (·.1)).getD j 0 = maxL (xs.map (·.1)) := by
    have sp := maxL_spec _ h2; have h3 := sp.2 _ (getD_mem hj); obtain ⟨i, hi, e⟩ := List.getElem_of_mem sp.1; have h4 := hb.2 i (by simp at hi; omega); have e2 : (xs.map (·.1)).getD i 0 = maxL (xs.map (·.1)) := by rw [List.getD_eq_getElem?_getD, List.getElem?_eq_getElem hi, e]; rfl
    omega
  rw [this]; exact hQ _ _ (Pure.mk' (kept_old (s₂ := s) hk) hm)
theorem tup3 (f : UInt64 -> UInt64 -> Bool) (a b c : UInt64) (t u x : Tok) (v : Value)
    (h : (#[Value.float a t, .float b u, .float c x] : Array Value)[argBest (fun i j => f ([a, b, c].getD i 0) ([a, b, c].getD j 0)) 2]? = some v) :
    v = if f b a then (if f c b then .float c x else .float b u) else (if f c a then .float c x else .float a t) := by
  by_cases h1 : f b a = true
  · by_cases h2 : f c b = true
    · simp [argBest, h1, h2] at h ⊢; exact h.symm
    · simp [argBest, h1, h2] at h ⊢; exact h.symm
  · by_cases h2 : f c a = true
    · simp [argBest, h1, h2] at h ⊢; exact h.symm
    · simp [argBest, h1, h2] at h ⊢; exact h.symm
theorem at3 {a b c : UInt64} {t u x : Tok} {i : Nat} {v : Value} (h : (#[Value.float a t, .float b u, .float c x] : Array Value)[i]? = some v) : ∃ tk, v = .float ([a, b, c].getD i 0) tk := by
  match i, h with
  | 0, h => simp at h; exact ⟨_, h.symm⟩
  | 1, h => simp at h; exact ⟨_, h.symm⟩
  | 2, h => simp at h; exact ⟨_, h.symm⟩
  | i + 3, h => simp at h
theorem max3_sound {a b c : UInt64} {t u x : Tok} {Q : Value -> Shared -> Prop} {k : Nat} (R : Room A k)
    (hQ : ∀ s', Pure s s' -> Q (if gtB b a then (if gtB c b then .float c x else .float b u) else (if gtB c a then .float c x else .float a t)) s') :
    wpAny (model prog w) A (call (.builtin "max") [.float a t, .float b u, .float c x]) Q E s := by
  have hT : (s.heap.push { cls := .type "tuple", data := .seq #[.float a t, .float b u, .float c x] }).IsTuple s.heap.objs.size #[.float a t, .float b u, .float c x] := ⟨_, Heap.get?_push_size _ rfl, rfl, 0, rfl⟩; refine wpAny_mon ?_; refine call_max_three (wpAny_pyIter_tuple hT ?_); have hsz : (s.heap.push { cls := .type "tuple", data := .seq #[.float a t, .float b u, .float c x] }).objs.size = s.heap.objs.size + 1 := Heap.size_push ..; refine ⟨_, [_, s.heap.objs.size], [_], _, _, _, _, rfl, Walks.tuple (A := A.in1) R.hh _ s.heap.objs.size (by rw [hsz]; exact Nat.ne_of_lt (Nat.lt_succ_self _)) _,
    ⟨⟨_, Heap.get?_push_size _ rfl, rfl, rfl⟩, hT.push _⟩, fun d hd => ?_, by simp, (?_ : CmpOf prog w A.in1 .Gt _ (fun i j => gtB ([a, b, c].getD i 0) ([a, b, c].getD j 0))), fun v h' tk hP hk hm => ?_⟩
  · show d < ((s.heap.push _).push _).objs.size; rw [Heap.size_push, hsz]; simp only [List.mem_cons, List.not_mem_nil, or_false, hsz] at hd; rcases hd with rfl | rfl
    · exact Nat.lt_succ_self _
    · exact Nat.lt_succ_of_lt (Nat.lt_succ_self _)
  · intro i j vi vj s' Q' E' hi hj hq; obtain ⟨_, rfl⟩ := at3 hi; obtain ⟨_, rfl⟩ := at3 hj; exact AutoFloatOps.gt_0 (s := s') hq
  · have := tup3 gtB a b c t u x v hP; rw [this]; refine hQ _ (Pure.mk' (fun d o e => hk d o (fun hm' => ?_) (Heap.get?_push_of_some _ (Heap.get?_push_of_some _ e))) hm); rw [List.mem_singleton, hsz] at hm'; have hlt := Heap.lt_size e; rw [hm'] at hlt; exact Nat.lt_irrefl _ (Nat.lt_of_succ_lt hlt)
theorem min3_sound {a b c : UInt64} {t u x : Tok} {Q : Value -> Shared -> Prop} {k : Nat} (R : Room A k)
    (hQ : ∀ s', Pure s s' -> Q (if ltB b a then (if ltB c b then .float c x else .float b u) else (if ltB c a then .float c x else .float a t)) s') :
    wpAny (model prog w) A (call (.builtin "min") [.float a t, .float b u, .float c x]) Q E s := by
  have hT : (s.heap.push { cls := .type "tuple", data := .seq #[.float a t, .float b u, .float c x] }).IsTuple s.heap.objs.size #[.float a t, .float b u, .float c x] := ⟨_, Heap.get?_push_size _ rfl, rfl, 0, rfl⟩; refine wpAny_mon ?_; refine call_min_three (wpAny_pyIter_tuple hT ?_); have hsz : (s.heap.push { cls := .type "tuple", data := .seq #[.float a t, .float b u, .float c x] }).objs.size = s.heap.objs.size + 1 := Heap.size_push ..; refine ⟨_, [_, s.heap.objs.size], [_], _, _, _, _, rfl, Walks.tuple (A := A.in1) R.hh _ s.heap.objs.size (by rw [hsz]; exact Nat.ne_of_lt (Nat.lt_succ_self _)) _,
    ⟨⟨_, Heap.get?_push_size _ rfl, rfl, rfl⟩, hT.push _⟩, fun d hd => ?_, by simp, (?_ : CmpOf prog w A.in1 .Lt _ (fun i j => ltB ([a, b, c].getD i 0) ([a, b, c].getD j 0))), fun v h' tk hP hk hm => ?_⟩
  · show d < ((s.heap.push _).push _).objs.size; rw [Heap.size_push, hsz]; simp only [List.mem_cons, List.not_mem_nil, or_false, hsz] at hd; rcases hd with rfl | rfl
    · exact Nat.lt_succ_self _
    · exact Nat.lt_succ_of_lt (Nat.lt_succ_self _)
  · intro i j vi vj s' Q' E' hi hj hq; obtain ⟨_, rfl⟩ := at3 hi; obtain ⟨_, rfl⟩ := at3 hj; exact AutoFloatOps.lt_0 (s := s') hq
  · have := tup3 ltB a b c t u x v hP; rw [this]; refine hQ _ (Pure.mk' (fun d o e => hk d o (fun hm' => ?_) (Heap.get?_push_of_some _ (Heap.get?_push_of_some _ e))) hm); rw [List.mem_singleton, hsz] at hm'; have hlt := Heap.lt_size e; rw [hm'] at hlt; exact Nat.lt_irrefl _ (Nat.lt_of_succ_lt hlt)
theorem RTs.cons_inv {h : Heap} {vs : List Value} {p : PV} {ps : List PV} (r : RTs prog w h N vs (p :: ps)) : ∃ v us, vs = v :: us /\ RT prog w h N v p /\ RTs prog w h N us ps := by
  cases r with | cons a b => exact ⟨_, _, rfl, a, b⟩
theorem RTs.nil_inv {h : Heap} {vs : List Value} (r : RTs prog w h N vs []) : vs = [] := by cases r; rfl
set_option maxHeartbeats 1600000 in
theorem bi_sound {f : Bi} {vs : List Value} {ps : List PV} {r : PV} {Q : Value -> Shared -> Prop} {k : Nat} (R : Room A k) (hT : 0 < s.toks) (ra : RTs prog w s.heap N vs ps) (h : biF f ps = some r)
    (hQ : ∀ v s', Pure s s' -> RV prog w s'.heap N v r -> Q v s') : wpAny (model prog w) A (call (biV f) vs) Q E s := by
  unfold biF at h; split at h
  all_goals (try (cases h; done))
  · obtain ⟨v, us, rfl, rv, ru⟩ := ra.cons_inv; obtain rfl := ru.nil_inv; cases rv with
    | lst pa ra =>
    split at h <;> cases h; refine Calls.call_len_list pa.isList (by simp [ra.length]; omega) ?_; simp only [List.size_toArray, ra.length]; exact hQ _ _ (Pure.toks _) (.int _ _)
  · rename_i x; obtain ⟨v, us, rfl, rv, ru⟩ := ra.cons_inv; obtain rfl := ru.nil_inv; cases rv; split at h <;> cases h; exact P.len_str (by omega) (hQ _ _ (Pure.toks _) (.int _ _))
  · obtain ⟨v, us, rfl, rv, ru⟩ := ra.cons_inv; obtain rfl := ru.nil_inv; cases rv with
    | lst pa ra =>
    split at h
    · rename_i ns hns; split at h <;> cases h; rename_i hc; simp only [Bool.and_eq_true, decide_eq_true_eq] at hc; exact sum_sound R pa ra hns hc.1 hc.2 fun t s' hp => hQ _ _ hp (.int _ _)
    · cases h
  · obtain ⟨v, us, rfl, rv, ru⟩ := ra.cons_inv; obtain ⟨v2, us, rfl, rv2, ru⟩ := ru.cons_inv; obtain rfl := ru.nil_inv; cases rv; cases rv2; cases h; refine wpAny_mon (max_two_ints R.hh fun h' tk hk hm => ?_); split
    · rename_i hc; rw [if_pos hc] at hQ; exact hQ _ _ (Pure.mk' hk hm) (.int _ _)
    · rename_i hc; rw [if_neg hc] at hQ; exact hQ _ _ (Pure.mk' hk hm) (.int _ _)
  · obtain ⟨v, us, rfl, rv, ru⟩ := ra.cons_inv; obtain ⟨v2, us, rfl, rv2, ru⟩ := ru.cons_inv; obtain rfl := ru.nil_inv; cases rv; cases rv2; cases h; refine wpAny_mon (min_two_ints R.hh fun h' tk hk hm => ?_); split
    · rename_i hc; rw [if_pos hc] at hQ; exact hQ _ _ (Pure.mk' hk hm) (.int _ _)
    · rename_i hc; rw [if_neg hc] at hQ; exact hQ _ _ (Pure.mk' hk hm) (.int _ _)
  · obtain ⟨v, us, rfl, rv, ru⟩ := ra.cons_inv; obtain ⟨v2, us, rfl, rv2, ru⟩ := ru.cons_inv; obtain ⟨v3, us, rfl, rv3, ru⟩ := ru.cons_inv; obtain rfl := ru.nil_inv; cases rv with | flt _ t ht =>
    cases rv2 with | flt _ u hu =>
    cases rv3 with | flt _ x hx =>
    cases h; refine max3_sound R fun s' hp => ?_; refine hQ _ _ hp ?_; split <;> split <;> first | exact .flt _ _ ht | exact .flt _ _ hu | exact .flt _ _ hx
  · obtain ⟨v, us, rfl, rv, ru⟩ := ra.cons_inv; obtain ⟨v2, us, rfl, rv2, ru⟩ := ru.cons_inv; obtain ⟨v3, us, rfl, rv3, ru⟩ := ru.cons_inv; obtain rfl := ru.nil_inv; cases rv with | flt _ t ht =>
    cases rv2 with | flt _ u hu =>
    cases rv3 with | flt _ x hx =>
    cases h; refine min3_sound R fun s' hp => ?_; refine hQ _ _ hp ?_; split <;> split <;> first | exact .flt _ _ ht | exact .flt _ _ hu | exact .flt _ _ hx
  · obtain ⟨v, us, rfl, rv, ru⟩ := ra.cons_inv; obtain rfl := ru.nil_inv; cases rv with
    | lst pa ra =>
    split at h
    · rename_i ns hns; split at h <;> cases h; rename_i hc; exact min_sound R pa ra hns (by simpa using hc) fun t s' hp => hQ _ _ hp (.int _ _)
    · cases h
  · obtain ⟨v, us, rfl, rv, ru⟩ := ra.cons_inv; obtain rfl := ru.nil_inv; cases rv with
    | lst pa ra =>
    split at h
    · rename_i ns hns; split at h <;> cases h; rename_i hc; exact max_sound R pa ra hns (by simpa using hc) fun t s' hp => hQ _ _ hp (.int _ _)
    · cases h
  · obtain ⟨v, us, rfl, rv, ru⟩ := ra.cons_inv; obtain rfl := ru.nil_inv; cases rv; split at h <;> cases h; rename_i hd; exact call_int_float hd (hQ _ _ (Pure.toks _) (.int _ _))
end
end Mine
end
section
open PySem PySem.W PyProof.Rows
namespace Mine
inductive Me where
  | join | count | index | get
  deriving DecidableEq
def Me.id : Me -> String
  | .join => "str.join"
  | .count => "list.count"
  | .index => "str.index"
  | .get => "dict.get"
def isStr : PV -> Option Str
  | .str n => some n
  | _ => none
def strsOf : List PV -> Option (List Str)
  | [] => some []
  | a :: l => match isStr a, strsOf l with
    | some n, some r => some (n :: r)
    | _, _ => none
def countF (f : PV -> Option Bool) : List PV -> Option Nat
  | [] => some 0
  | a :: l => match f a, countF f l with
    | some b, some n => some (if b then n + 1 else n)
    | _, _ => none
def meF : Me -> PV -> List PV -> Option PV
  | .join, .str x, [.lst l] => match strsOf l with
    | some ts => if JoinOk x ts then some (.str (Txt.join x ts)) else none
    | none => none
  | .count, .lst l, [p] => if l.all PV.scalar then (countF (fun y => eqF 0 y p) l).map (fun n : Nat => PV.int (n : Int)) else none
  | .index, .str x, [.str y] => match Builtin.Str.occurrences x y 0 x.length 1 with
    | i :: _ => some (.int (i : Int))
    | [] => none
  | .get, .dcti l, [.int k, d] => if d.scalar then some (((l.lookup k).map SV.pv).getD d) else none
  | _, _, _ => none
section
variable {prog : Program} {w : World} {A : Around} {E : Value -> Shared -> Prop} {s : Shared} {N : Addr -> Prop}
theorem strsOf_values {h : Heap} : ∀ {vs : List Value} {l : List PV} {ns : List Str}, RVs prog w h N vs l -> strsOf l = some ns -> ∃ xs : List (Str × Tok), vs = strValues xs /\ xs.map (·.1) = ns
  | _, _, _, .nil, h => by simp [strsOf] at h; subst h; exact ⟨[], rfl, rfl⟩
  | _, _, _, .cons a r, h => by
    simp only [strsOf] at h; split at h
    · rename_i n q h1 h2; cases h; obtain ⟨xs, h3, h4⟩ := strsOf_values r h2; cases a <;> simp [isStr] at h1; subst h1; exact ⟨(_, _) :: xs, by rw [h3]; rfl, by simp [h4]⟩
    · cases h
theorem countF_is {x : PV} : ∀ {vs : List Value} {l : List PV} {n : Nat}, RVs prog w s.heap N vs l -> l.all PV.scalar = true -> countF (fun y => eqF 0 y x) l = some n ->
    (∀ y ∈ vs, ∃ p, RV prog w s.heap N y p /\ eqF 0 p x = some (eqW prog w s.heap N x y)) /\ vs.countP (eqW prog w s.heap N x) = n
  | _, _, _, .nil, _, h => by simp [countF] at h; subst h; exact ⟨fun y hy => (nomatch hy), rfl⟩
  | _, _, _, .cons a r, hs, h => by
    simp only [List.all_cons, Bool.and_eq_true] at hs; simp only [countF] at h; split at h
    · rename_i y z hy hz; cases h; obtain ⟨h1, h2⟩ := countF_is r hs.2 hz; have h3 := eqW_is a hs.1 hy; refine ⟨fun u hu => ?_, ?_⟩
      · rcases List.mem_cons.mp hu with rfl | hu
        · exact ⟨_, a, by rw [h3]; exact hy⟩
        · exact h1 u hu
      · rw [List.countP_cons, h3, h2]; cases y <;> simp
    · cases h
theorem RVs.cons_inv {h : Heap} {vs : List Value} {p : PV} {ps : List PV} (r : RVs prog w h N vs (p :: ps)) : ∃ v us, vs = v :: us /\ RV prog w h N v p /\ RVs prog w h N us ps := by
  cases r with | cons a b => exact ⟨_, _, rfl, a, b⟩
theorem RVs.nil_inv {h : Heap} {vs : List Value} (r : RVs prog w h N vs []) : vs = [] := by cases r; rfl
theorem newsOne {d : Addr} {o : Obj} {h : Heap} (ho : h.get? d = some o) : News {} (d + 1) h [(d, o)] := by
  intro p hp; rw [List.mem_singleton] at hp; subst hp; refine ⟨ho, ?_, ?_⟩
  · show d ≠ d + 1; exact Nat.ne_of_lt (Nat.lt_succ_self _)
  · show Heap.get? {} d = none; apply Heap.get?_none_of_le; exact Nat.zero_le _
theorem me_sound {f : Me} {a : Value} {vs : List Value} {p : PV} {ps : List PV} {r : PV} {Q : Value -> Shared -> Prop} {k : Nat} (hk : 1 <= k) (R : Room A k) (hT : 0 < s.toks) (hns : NoShare s.heap) (rp : RT prog w s.heap N a p) (ra : RTs prog w s.heap N vs ps) (h : meF f p ps = some r)
    (hQ : ∀ v s', Pure s s' -> RV prog w s'.heap N v r -> Q v s') : wpAny (model prog w) A (call (.builtin f.id) (a :: vs)) Q E s := by
  unfold meF at h; split at h
  all_goals (try (cases h; done))
  · cases rp; obtain ⟨v, us, rfl, rv, ru⟩ := ra.cons_inv; obtain rfl := ru.nil_inv; cases rv with
    | lst pa rl =>
    split at h
    · rename_i ts hts; split at h <;> cases h; rename_i hj; obtain ⟨xs, rfl, hx⟩ := strsOf_values rl hts; exact wpAny_mon (SC.join pa.isList hx hj fun t' k' hm => hQ _ _ (Pure.toks _ hm.2) (.str _ _))
    · cases h
  · rename_i q; cases rp with
    | @lst c us l pa rl =>
    obtain ⟨v, us', rfl, rv, ru⟩ := ra.cons_inv; obtain rfl := ru.nil_inv; split at h
    · rename_i hs; obtain ⟨n, hn', rfl⟩ := Option.map_eq_some_iff.mp h; obtain ⟨h1, h2⟩ := countF_is rl hs hn'; obtain ⟨m, e⟩ := pa; refine call_meets F.slot_list_count ⟨_, e, rfl⟩ F.entry_list_count (F.args_list_count_2 _ _) (SeqAt.list_countAt c us.toArray m none #[] v (eqW prog w s.heap N q)) ⟨e, fun y hy => ?_, ?_⟩
      · obtain ⟨z, rz, hz⟩ := h1 y (by simpa using hy); exact eqAt_sound hns 0 (R.le hk).in1 rz (rt_scalar0 hz rv) hz
      · simp only [List.toList_toArray]; rw [h2]; exact hQ _ _ (Pure.toks _) (.int _ _)
    · cases h
  · cases rp; obtain ⟨v, us, rfl, rv, ru⟩ := ra.cons_inv; obtain rfl := ru.nil_inv; cases rv; split at h <;> cases h; rename_i ho; exact SC.index ho (hQ _ _ (Pure.toks _) (.int _ _))
  · rename_i l x d; cases rp with
    | dcti hd =>
    obtain ⟨v, us, rfl, rv, ru⟩ := ra.cons_inv; obtain ⟨v2, us, rfl, rv2, ru⟩ := ru.cons_inv; obtain rfl := ru.nil_inv; cases rv with
    | int _ t =>
    split at h <;> cases h; rename_i hsc; have rv3 : RV prog w s.heap N v2 d := by
      cases rv2 <;> first | exact .none | exact .bool _ | exact .int _ _ | exact .flt _ _ (by assumption) | exact .str _ _ | cases hsc
    obtain ⟨hsm, kvs, hdo, hkv⟩ := hd; obtain ⟨o, ho, hio⟩ := Heap.dictOf_iff.mp hdo; refine kdg_get2 (newsOne ho) (List.mem_singleton_self _) hio hsm (intKind_is prog w x t) _ rfl ?_; rcases hkv.lookup (k := x) with ⟨h1, h2⟩ | ⟨y, z, h1, h2, hv⟩
    · rw [h1]; rw [h2] at hQ; exact hQ _ _ (Pure.toks _) rv3
    · rw [h1]; rw [h2] at hQ; exact hQ _ _ (Pure.toks _) hv.rv
end
end Mine
end
section
open PySem PySem.W PyProof.Rows
namespace Mine
abbrev PEnv := List (Option PV)
def lk : PEnv -> Nat -> Option PV
  | [], _ => none
  | a :: _, 0 => a
  | _ :: l, n + 1 => lk l n
def st : PEnv -> Nat -> PV -> PEnv
  | [], _, _ => []
  | _ :: l, 0, p => some p :: l
  | a :: l, n + 1, p => a :: st l n p
theorem lk_st {j : Nat} {q : PV} : ∀ {pe : PEnv} {i : Nat} {p : PV}, lk (st pe i p) j = some q -> (j = i /\ q = p) \/ (j ≠ i /\ lk pe j = some q)
  | [], _, _, h => by simp [st, lk] at h
  | a :: l, 0, p, h => by
    cases j with
    | zero => simp [st, lk] at h; exact .inl ⟨rfl, h.symm⟩
    | succ j => exact .inr ⟨by simp, by simpa [st, lk] using h⟩
  | a :: l, n + 1, p, h => by
    cases j with
    | zero => exact .inr ⟨by simp, by simpa [st, lk] using h⟩
    | succ j =>
      simp only [st, lk] at h ⊢; rcases lk_st (pe := l) h with ⟨h1, h2⟩ | ⟨h1, h2⟩
      · exact .inl ⟨by omega, h2⟩
      · exact .inr ⟨by omega, h2⟩
structure Cx where
  vars : List (Str × Nat)
  kinds : List (Str × NameKind)
  own : List Nat
  tk : List Nat
  top : Bool
inductive BindAt (env : Env) (h : Heap) (x : Str) (v : Value) : Prop
  | loc (m : Str -> Option Value) : env.kindOf x = some .local -> h.Ns env.locals m -> m x = some v -> BindAt env h x v
  | cell (c : Addr) : (env.kindOf x = some .cell \/ env.kindOf x = some .free) -> env.cells.lookup x = some c -> h.IsCell c (some v) -> BindAt env h x v
def OwnR (prog : Program) (w : World) (h : Heap) (N : Addr -> Prop) (a : Addr) : PV -> Prop
  | .lst l => ∃ vs : List Value, h.PlainList a vs.toArray /\ RVs prog w h N vs l
  | .dcti l => PlainDictI prog w h a l
  | _ => False
def SlotR (prog : Program) (w : World) (cx : Cx) (env : Env) (s : Shared) (N : Addr -> Prop) (i : Nat) (v : Value) (p : PV) : Prop :=
  (if cx.own.contains i then ∃ a, v = .ref a /\ N a /\ a ≠ env.locals /\ OwnR prog w s.heap N a p else RV prog w s.heap N v p) /\
  (cx.tk.contains i = true -> ∀ x t, v = .str x t -> t ≠ 0 /\ t < s.toks)
mutual
theorem RV.weak' {prog : Program} {w : World} {h : Heap} {N N' : Addr -> Prop} (hn : ∀ b, N' b -> N b) : ∀ {v : Value} {p : PV}, RV prog w h N v p -> RV prog w h N' v p
  | _, _, .none => .none
  | _, _, .bool b => .bool b
  | _, _, .int n t => .int n t
  | _, _, .flt x t ht => .flt x t ht
  | _, _, .str x t => .str x t
  | _, _, .tup a b c => .tup (fun q => a (hn _ q)) b (RVs.weak' hn c)
  | _, _, .lst a b c => .lst (fun q => a (hn _ q)) b (RVs.weak' hn c)
  | _, _, .dcti a b => .dcti (fun q => a (hn _ q)) b
  | _, _, .dcts a b => .dcts (fun q => a (hn _ q)) b
theorem RVs.weak' {prog : Program} {w : World} {h : Heap} {N N' : Addr -> Prop} (hn : ∀ b, N' b -> N b) : ∀ {vs : List Value} {ps : List PV}, RVs prog w h N vs ps -> RVs prog w h N' vs ps
  | _, _, .nil => .nil
  | _, _, .cons a b => .cons (RV.weak' hn a) (RVs.weak' hn b)
end
inductive StoreAt (env : Env) (h : Heap) (No : Addr -> Prop) (x : Str) : Prop
  | loc : env.kindOf x = some .local -> StoreAt env h No x
  | cell (c : Addr) (v₀ : Option Value) : env.kindOf x = some .cell -> env.cells.lookup x = some c -> No c -> h.IsCell c v₀ -> StoreAt env h No x
structure Base (h₀ : Heap) (s : Shared) (N : Addr -> Prop) : Prop where
  keep : ∀ b o, h₀.get? b = some o -> s.heap.get? b = some o
  above : ∀ b, N b -> h₀.objs.size <= b
  size : h₀.objs.size <= s.heap.objs.size
  low : Low N s.heap
  toks : 0 < s.toks
  bare : AllBare s.gens
structure EnvR (prog : Program) (w : World) (h₀ : Heap) (cx : Cx) (asg : List Str) (env : Env) (s : Shared) (Na No : Addr -> Prop) (pe : PEnv) : Prop where
  base : Base h₀ s (fun b => Na b \/ No b)
  kind : env.scope.kind = .function
  glb : env.globals = mainGlobals
  blt : env.builtins = builtinsNs
  gl : ∀ x, cx.kinds.lookup x = some .globalImplicit -> env.kindOf x = some .globalImplicit
  cl : ∀ x, (cx.kinds.lookup x = some .cell \/ cx.kinds.lookup x = some .free) -> (env.kindOf x = some .cell \/ env.kindOf x = some .free) /\ ∃ c v, env.cells.lookup x = some c /\ s.heap.IsCell c v
  ns : ∃ m, s.heap.Ns env.locals m
  noL : No env.locals
  apart : ∀ x y c, env.cells.lookup x = some c -> env.cells.lookup y = some c -> x = y
  cellsLow : ∀ x c, env.cells.lookup x = some c -> c < s.heap.objs.size
  vars : ∀ x i p, cx.vars.lookup x = some i -> lk pe i = some p -> ∃ v, BindAt env s.heap x v /\ SlotR prog w cx env s (fun b => Na b \/ No b) i v p
  stores : ∀ x ∈ asg, StoreAt env s.heap No x
  inj : ∀ x y i, cx.vars.lookup x = some i -> cx.vars.lookup y = some i -> x = y
  alone : ∀ x y i j a, cx.vars.lookup x = some i -> cx.vars.lookup y = some j -> (lk pe i).isSome -> (lk pe j).isSome -> cx.own.contains i = true -> cx.own.contains j = true -> BindAt env s.heap x (.ref a) -> BindAt env s.heap y (.ref a) -> i = j
  disj : ∀ b, No b -> ¬ Na b
  turns : ∀ x i a, cx.vars.lookup x = some i -> cx.own.contains i = true -> (lk pe i).isSome -> BindAt env s.heap x (.ref a) -> No a
theorem BindAt.same {env : Env} {h : Heap} {x : Str} {v u : Value} (a : BindAt env h x v) (b : BindAt env h x u) : v = u := by
  cases a with
  | loc m k n e =>
    cases b with
    | loc m' k' n' e' =>
      obtain ⟨o, es, ep, h1, h2, h3, h4⟩ := n; obtain ⟨o', es', ep', h1', h2', h3', h4'⟩ := n'; rw [h1] at h1'; cases h1'; rw [h2] at h2'; cases h2'; have := (h4 x).symm.trans (h4' x); rw [e, e'] at this; exact Option.some.inj this
    | cell c k' => rw [k] at k'; rcases k' with k' | k' <;> cases k'
  | cell c k e f =>
    cases b with
    | loc m k' => rw [k'] at k; rcases k with k | k <;> cases k
    | cell c' k' e' f' =>
      rw [e] at e'; cases e'; obtain ⟨o, h1, h2⟩ := f; obtain ⟨o', h1', h2'⟩ := f'; rw [h1] at h1'; cases h1'; rw [h2] at h2'; cases h2'; rfl
theorem BindAt.keeps {env : Env} {h h' : Heap} {x : Str} {v : Value} (a : BindAt env h x v) (k : ∀ b o, h.get? b = some o -> h'.get? b = some o) : BindAt env h' x v := by
  cases a with
  | loc m q n e => exact .loc m q (n.keeps k) e
  | cell c q e f => exact .cell c q e (f.keeps k)
section
variable {prog : Program} {w : World} {h₀ : Heap} {cx : Cx} {asg : List Str} {env : Env} {s s' : Shared} {Na No : Addr -> Prop} {pe : PEnv}
structure Wider (s : Shared) (No : Addr -> Prop) (s' : Shared) (No' : Addr -> Prop) : Prop where
  pure : Pure s s'
  sub : ∀ b, No b -> No' b
  new : ∀ b, No' b -> No b \/ s.heap.objs.size <= b
  low : Low No' s'.heap
theorem Wider.of_pure (x : Pure s s') (h : Low No s.heap) : Wider s No s' No := ⟨x, fun _ h => h, fun _ h => .inl h, fun b hb => Nat.lt_of_lt_of_le (h b hb) x.step.grow⟩
theorem Wider.one (x : Pure s s') (h : Low No s.heap) {a : Addr} (h1 : s.heap.objs.size <= a) (h2 : a < s'.heap.objs.size) : Wider s No s' (fun b => No b \/ b = a) :=
  ⟨x, fun _ h => .inl h, fun b hb => hb.elim .inl fun e => .inr (e ▸ h1), fun b hb => hb.elim (fun q => Nat.lt_of_lt_of_le (h b q) x.step.grow) fun e => e ▸ h2⟩
theorem Wider.stepAt {No' : Addr -> Prop} (x : Wider s No s' No') : Step s.heap (fun b => Na b \/ No b) s'.heap (fun b => Na b \/ No' b) :=
  ⟨fun b o _ e => x.pure.keep b o e, x.pure.step.grow, fun b hb => hb.elim (fun q => .inl (.inl q)) fun q => (x.new b q).elim (fun q => .inl (.inr q)) .inr⟩
theorem SlotR.wide {No' : Addr -> Prop} {i : Nat} {v : Value} {p : PV} (r : SlotR prog w cx env s (fun b => Na b \/ No b) i v p) (x : Wider s No s' No') : SlotR prog w cx env s' (fun b => Na b \/ No' b) i v p := by
  refine ⟨?_, fun ht y t e => ⟨(r.2 ht y t e).1, Nat.lt_of_lt_of_le (r.2 ht y t e).2 (Ext.toks x.pure)⟩⟩; have r1 := r.1; split
  · rename_i hc; rw [if_pos hc] at r1; obtain ⟨a, e, h1, h2, h3⟩ := r1; refine ⟨a, e, h1.elim .inl (fun q => .inr (x.sub _ q)), h2, ?_⟩; cases p <;> simp only [OwnR] at h3 ⊢
    · obtain ⟨vs, h4, h5⟩ := h3; exact ⟨vs, h4.at fun o e => x.pure.keep _ _ e, h5.step x.stepAt⟩
    · obtain ⟨hs, kvs, hd, hk⟩ := h3; exact ⟨hs, kvs, hd.keep x.pure.keep, hk⟩
  · rename_i hc; rw [if_neg hc] at r1; exact r1.step x.stepAt
theorem Base.pure {N : Addr -> Prop} (b : Base h₀ s N) (x : Pure s s') : Base h₀ s' N where
  keep := fun a o e => x.keep a o (b.keep a o e)
  above := b.above
  size := Nat.le_trans b.size x.step.grow
  low := fun a h => Nat.lt_of_lt_of_le (b.low a h) x.step.grow
  toks := Nat.lt_of_lt_of_le b.toks (Ext.toks x)
  bare := x.bare b.bare
theorem EnvR.bind_back (r : EnvR prog w h₀ cx asg env s Na No pe) (x : Pure s s') {y : Str} {i : Nat} {p : PV} {v : Value} (hy : cx.vars.lookup y = some i) (hp : lk pe i = some p) (b : BindAt env s'.heap y v) : BindAt env s.heap y v := by
  obtain ⟨u, hu, _⟩ := r.vars y i p hy hp; have := (hu.keeps x.keep).same b; subst this; exact hu
theorem EnvR.wide {No' : Addr -> Prop} (r : EnvR prog w h₀ cx asg env s Na No pe) (x : Wider s No s' No') : EnvR prog w h₀ cx asg env s' Na No' pe where
  base := { (r.base.pure x.pure) with
    above := fun b hb => hb.elim (fun q => r.base.above b (.inl q)) fun q => (x.new b q).elim (fun q => r.base.above b (.inr q)) fun q => Nat.le_trans r.base.size q
    low := fun b hb => hb.elim (fun q => Nat.lt_of_lt_of_le (r.base.low b (.inl q)) x.pure.step.grow) fun q => x.low b q }
  kind := r.kind
  glb := r.glb
  blt := r.blt
  gl := r.gl
  cl := fun y hy => let ⟨h1, c, v, h2, h3⟩ := r.cl y hy; ⟨h1, c, v, h2, h3.keeps x.pure.keep⟩
  ns := let ⟨m, hm⟩ := r.ns; ⟨m, hm.keeps x.pure.keep⟩
  noL := x.sub _ r.noL
  apart := r.apart
  cellsLow := fun y c h => Nat.lt_of_lt_of_le (r.cellsLow y c h) x.pure.step.grow
  vars := fun y i p h1 h2 => let ⟨v, hb, hs⟩ := r.vars y i p h1 h2; ⟨v, hb.keeps x.pure.keep, hs.wide x⟩
  stores := fun y hy => by
    cases r.stores y hy with
    | loc h => exact .loc h
    | cell c v₀ h1 h2 h3 h4 => exact .cell c v₀ h1 h2 (x.sub _ h3) (h4.keeps x.pure.keep)
  inj := r.inj
  alone := fun y z i j a h1 h2 h3 h4 h5 h6 h7 h8 => by
    obtain ⟨p, hp⟩ := Option.isSome_iff_exists.mp h3; obtain ⟨q, hq⟩ := Option.isSome_iff_exists.mp h4; exact r.alone y z i j a h1 h2 h3 h4 h5 h6 (r.bind_back x.pure h1 hp h7) (r.bind_back x.pure h2 hq h8)
  disj := fun b hb ha => (x.new b hb).elim (fun q => r.disj b q ha) fun q => Nat.lt_irrefl _ (Nat.lt_of_lt_of_le (r.base.low b (.inl ha)) q)
  turns := fun y i a h1 h2 h3 h4 => by
    obtain ⟨p, hp⟩ := Option.isSome_iff_exists.mp h3; exact x.sub _ (r.turns y i a h1 h2 h3 (r.bind_back x.pure h1 hp h4))
theorem EnvR.lowO (r : EnvR prog w h₀ cx asg env s Na No pe) : Low No s.heap := fun b hb => r.base.low b (.inr hb)
theorem EnvR.pure (r : EnvR prog w h₀ cx asg env s Na No pe) (x : Pure s s') : EnvR prog w h₀ cx asg env s' Na No pe := r.wide (Wider.of_pure x r.lowO)
theorem cell_ne_ns {h : Heap} {c L : Addr} {v : Option Value} {m : Str -> Option Value} (a : h.IsCell c v) (b : h.Ns L m) : c ≠ L := by
  rintro rfl
  obtain ⟨o, h1, h2⟩ := a; obtain ⟨o', es, ep, h3, h4, _⟩ := b; rw [h1] at h3; cases h3; rw [h2] at h4; cases h4
theorem own_ne_cell {h : Heap} {N : Addr -> Prop} {a c : Addr} {v : Option Value} {p : PV} (x : OwnR prog w h N a p) (y : h.IsCell c v) : a ≠ c := by
  rintro rfl
  obtain ⟨o, h1, h2⟩ := y; cases p <;> simp only [OwnR] at x
  · obtain ⟨vs, ⟨n, e⟩, _⟩ := x; rw [e] at h1; cases h1; cases h2
  · obtain ⟨_, kvs, ⟨o', es, ep, e, _, hd, _⟩, _⟩ := x; rw [e] at h1; cases h1; rw [hd] at h2; cases h2
theorem SlotR.other {b0 : Addr} {h' : Heap} {t' : Nat} {N : Addr -> Prop} {i : Nat} {v : Value} {p : PV} (r : SlotR prog w cx env s N i v p) (hb : N b0) (hs : Heap.SameBut b0 s.heap h') (hne : ∀ a, v = .ref a -> cx.own.contains i = true -> OwnR prog w s.heap N a p -> a ≠ env.locals -> a ≠ b0) (ht : s.toks <= t') :
    SlotR prog w cx env { s with heap := h', toks := t' } N i v p := by
  have S : Step s.heap N h' N := ⟨fun b o hn e => hs.extBut b o (fun q => hn (q ▸ hb)) e, Nat.le_of_eq hs.1.symm, fun _ q => .inl q⟩; refine ⟨?_, fun htk y t e => ⟨(r.2 htk y t e).1, Nat.lt_of_lt_of_le (r.2 htk y t e).2 ht⟩⟩; have r1 := r.1; split
  · rename_i hc; rw [if_pos hc] at r1; obtain ⟨a, e, h1, h2, h3⟩ := r1; have hne' := hne a e hc h3 h2; refine ⟨a, e, h1, h2, ?_⟩; cases p <;> simp only [OwnR] at h3 ⊢
    · obtain ⟨vs, h4, h5⟩ := h3; exact ⟨vs, h4.at fun o e => hs.extBut _ _ hne' e, h5.step S⟩
    · obtain ⟨hs', kvs, hd, hk⟩ := h3; exact ⟨hs', kvs, hd.extBut hs.extBut hne', hk⟩
  · rename_i hc; rw [if_neg hc] at r1; exact r1.step S
theorem store_sound {M : Model} {A : Around} {E : Value -> Shared -> Prop} {x : Str} {i : Nat} {v : Value} {p : PV} {Q : Unit -> Shared -> Prop} (r : EnvR prog w h₀ cx asg env s Na No pe) (hx : x ∈ asg) (hi : cx.vars.lookup x = some i)
    (hv : SlotR prog w cx env s (fun b => Na b \/ No b) i v p)
    (hmu : ∀ a, v = .ref a -> cx.own.contains i = true -> No a)
    (hal : ∀ a, v = .ref a -> cx.own.contains i = true -> ∀ y j, cx.vars.lookup y = some j -> j ≠ i -> (lk pe j).isSome -> cx.own.contains j = true -> ¬ BindAt env s.heap y (.ref a))
    (hQ : ∀ s' b0, No b0 -> (b0 = env.locals \/ env.cells.lookup x = some b0) -> Heap.SameBut b0 s.heap s'.heap -> s'.gens = s.gens -> Ext s No s' No -> EnvR prog w h₀ cx asg env s' Na No (st pe i p) -> Q () s') : wpAny M A (storeName env x v) Q E s := by
  have key : ∀ (b0 : Addr) (h' : Heap) (t' : Nat), (b0 = env.locals \/ env.cells.lookup x = some b0) -> (∀ c u, s.heap.IsCell c u -> ∃ u, h'.IsCell c u) -> No b0 -> Heap.SameBut b0 s.heap h' -> s.toks <= t' -> (∃ m, h'.Ns env.locals m) -> BindAt env h' x v ->
      (∀ y u, y ≠ x -> BindAt env s.heap y u -> BindAt env h' y u) -> (∀ y ∈ asg, StoreAt env h' No y) -> (∀ a p N, OwnR prog w s.heap N a p -> a ≠ env.locals -> a ≠ b0) ->
      Q () { s with heap := h', toks := t' } := by
    intro b0 h' t' hb0 hcells hb hs ht hns hbx hby hasg hown; have S : Step s.heap No h' No := ⟨fun b o hn e => hs.extBut b o (fun q => hn (q ▸ hb)) e, Nat.le_of_eq hs.1.symm, fun _ q => .inl q⟩; have hsz : h'.objs.size = s.heap.objs.size := hs.1; refine hQ { s with heap := h', toks := t' } b0 hb hb0 hs rfl ⟨S, fun _ _ e => e, fun q => q, rfl, rfl, ht⟩ ?_; have back : ∀ y u, y ≠ x -> (∃ j q, cx.vars.lookup y = some j /\ lk pe j = some q) -> BindAt env h' y u -> BindAt env s.heap y u := by
      rintro y u hy ⟨j, q, h1, h2⟩ hb'
      obtain ⟨z, hz, _⟩ := r.vars y j q h1 h2; have := (hby y z hy hz).same hb'; subst this; exact hz
    exact {
      base := {
        keep := fun b o e => hs.extBut b o (fun q => by have := r.base.above b0 (.inr hb); have h2 := Heap.lt_size e; rw [q] at h2; exact absurd h2 (Nat.not_lt.mpr this)) (r.base.keep b o e)
        above := r.base.above
        size := by show _ <= h'.objs.size; rw [hsz]; exact r.base.size
        low := fun b q => by show b < h'.objs.size; rw [hsz]; exact r.base.low b q
        toks := Nat.lt_of_lt_of_le r.base.toks ht
        bare := r.base.bare }
      kind := r.kind
      glb := r.glb
      blt := r.blt
      gl := r.gl
      cl := fun y hy => let ⟨h1, c, v, h2, h3⟩ := r.cl y hy; let ⟨u, hu⟩ := hcells c v h3; ⟨h1, c, u, h2, hu⟩
      ns := hns
      noL := r.noL
      apart := r.apart
      cellsLow := fun y c h => by show c < h'.objs.size; rw [hsz]; exact r.cellsLow y c h
      vars := fun y j q h1 h2 => by
        rcases lk_st h2 with ⟨rfl, rfl⟩ | ⟨hj, h2⟩
        · have : y = x := r.inj y x _ h1 hi; subst this; exact ⟨v, hbx, hv.other (.inr hb) hs (fun a _ _ ho hl => hown a _ _ ho hl) ht⟩
        · have hyx : y ≠ x := fun e => by subst e; rw [hi] at h1; exact hj (Option.some.inj h1).symm
          obtain ⟨z, hz, hsl⟩ := r.vars y j q h1 h2; exact ⟨z, hby y z hyx hz, hsl.other (.inr hb) hs (fun a _ _ ho hl => hown a _ _ ho hl) ht⟩
      stores := hasg
      inj := r.inj
      alone := fun y z j k a h1 h2 h3 h4 h5 h6 h7 h8 => by
        obtain ⟨pj, h3⟩ := Option.isSome_iff_exists.mp h3; obtain ⟨pk, h4⟩ := Option.isSome_iff_exists.mp h4; rcases lk_st h3 with ⟨rfl, rfl⟩ | ⟨hj, h3'⟩ <;> rcases lk_st h4 with ⟨rfl, rfl⟩ | ⟨hk, h4'⟩
        · rfl
        · have e1 : y = x := r.inj y x _ h1 hi; subst e1; have hzx : z ≠ y := fun e => by subst e; rw [h1] at h2; exact hk (Option.some.inj h2).symm
          have e2 := hbx.same h7; exact absurd (back z _ hzx ⟨k, _, h2, h4'⟩ h8) (hal a e2 h5 z k h2 hk (by rw [h4']; rfl) h6)
        · have e1 : z = x := r.inj z x _ h2 hi; subst e1; have hzx : y ≠ z := fun e => by subst e; rw [h1] at h2; exact hj (Option.some.inj h2)
          have e2 := hbx.same h8; exact absurd (back y _ hzx ⟨j, _, h1, h3'⟩ h7) (hal a e2 h6 y j h1 hj (by rw [h3']; rfl) h5)
        · have hyx : y ≠ x := fun e => by subst e; rw [hi] at h1; exact hj (Option.some.inj h1).symm
          have hzx : z ≠ x := fun e => by subst e; rw [hi] at h2; exact hk (Option.some.inj h2).symm
          exact r.alone y z j k a h1 h2 (by rw [h3']; rfl) (by rw [h4']; rfl) h5 h6 (back y _ hyx ⟨j, _, h1, h3'⟩ h7) (back z _ hzx ⟨k, _, h2, h4'⟩ h8)
      disj := r.disj
      turns := fun y j a h1 h2 h3 h4 => by
        obtain ⟨pj, h3⟩ := Option.isSome_iff_exists.mp h3; rcases lk_st h3 with ⟨rfl, rfl⟩ | ⟨hj, h3'⟩
        · have e1 : y = x := r.inj y x _ h1 hi; subst e1; exact hmu a (hbx.same h4) h2
        · have hyx : y ≠ x := fun e => by subst e; rw [hi] at h1; exact hj (Option.some.inj h1).symm
          exact r.turns y j a h1 h2 (by rw [h3']; rfl) (back y _ hyx ⟨j, _, h1, h3'⟩ h4) }
  obtain ⟨m, hns⟩ := r.ns; cases r.stores x hx with
  | loc hl =>
    refine wpAny_storeName_local hl hns (fun h' hn' hs' => key env.locals h' _ (.inl rfl) (fun c u hc => ⟨u, hc.sameBut hs' (cell_ne_ns hc hns)⟩) r.noL hs' (Nat.le_succ _) ⟨_, hn'⟩ (.loc _ hl hn' (by simp)) ?_ ?_ (fun a p N _ q => q)) (by rw [r.kind]; rfl)
    · intro y u hy hb; cases hb with
      | loc m' h1 h2 h3 =>
        refine .loc _ h1 hn' ?_; simp only [if_neg hy]; have := BindAt.same (.loc m' h1 h2 h3) (env := env) (h := s.heap) (x := y) (u := u) (.loc m' h1 h2 h3); obtain ⟨o, es, ep, a1, a2, a3, a4⟩ := hns; obtain ⟨o', es', ep', b1, b2, b3, b4⟩ := h2; rw [a1] at b1; cases b1; rw [a2] at b2; cases b2; exact (a4 y).symm.trans ((b4 y).trans h3)
      | cell c h1 h2 h3 => exact .cell c h1 h2 (h3.sameBut hs' (cell_ne_ns h3 hns))
    · intro y hy; cases r.stores y hy with
      | loc h => exact .loc h
      | cell c v₀ h1 h2 h3 h4 => exact .cell c v₀ h1 h2 h3 (h4.sameBut hs' (cell_ne_ns h4 hns))
  | cell c v₀ hl hc hno hcell =>
    refine wpAny_storeName_cell r.kind hl hc hcell fun h' hv' hs' => key c h' s.toks (.inr hc) (fun c' u hc' => by
      by_cases e : c' = c
      · subst e; exact ⟨_, hv'⟩
      · exact ⟨u, hc'.sameBut hs' e⟩) hno hs' (Nat.le_refl _) ⟨m, hns.sameBut hs' (Ne.symm (cell_ne_ns hcell hns))⟩ (.cell c (.inl hl) hc hv') ?_ ?_ (fun a p N ho _ => own_ne_cell ho hcell)
    · intro y u hy hb; cases hb with
      | loc m' h1 h2 h3 => exact .loc m' h1 (h2.sameBut hs' (Ne.symm (cell_ne_ns hcell h2))) h3
      | cell c' h1 h2 h3 => exact .cell c' h1 h2 (h3.sameBut hs' fun e => hy (r.apart y x c' h2 (e ▸ hc)))
    · intro y hy; cases r.stores y hy with
      | loc h => exact .loc h
      | cell c' v₀' h1 h2 h3 h4 =>
        by_cases e : c' = c
        · subst e; exact .cell c' _ h1 h2 h3 hv'
        · exact .cell c' v₀' h1 h2 h3 (h4.sameBut hs' e)
theorem EnvR.poke {b0 : Addr} {o0 : Obj} (r : EnvR prog w h₀ cx asg env s Na No pe) (hb : Na b0) (ho : s.heap.get? b0 = some o0) (hcell : ∀ v, o0.data ≠ .cell v)
    (hk : ∀ b o, b ≠ b0 -> s.heap.get? b = some o -> s'.heap.get? b = some o) (hg : s.heap.objs.size <= s'.heap.objs.size) (ht : s.toks <= s'.toks) (hbare : AllBare s.gens -> AllBare s'.gens) : EnvR prog w h₀ cx asg env s' Na No pe := by
  have hno : ¬ No b0 := fun q => r.disj b0 q hb; have S : Step s.heap (fun b => Na b \/ No b) s'.heap (fun b => Na b \/ No b) := ⟨fun b o hn e => hk b o (fun q => hn (.inl (q ▸ hb))) e, hg, fun _ q => .inl q⟩; have hc0 : ∀ c v, s.heap.IsCell c v -> c ≠ b0 := by
    rintro c v ⟨o, h1, h2⟩ rfl
    rw [ho] at h1; cases h1; exact hcell _ h2
  have hcs : ∀ c v, s.heap.IsCell c v -> s'.heap.IsCell c v := fun c v h => let ⟨o, h1, h2⟩ := h; ⟨o, hk c o (hc0 c v h) h1, h2⟩; have hL : env.locals ≠ b0 := fun e => hno (e ▸ r.noL); have hns : ∀ m, s.heap.Ns env.locals m -> s'.heap.Ns env.locals m := fun m h => let ⟨o, es, ep, x, q⟩ := h; ⟨o, es, ep, hk _ _ hL x, q⟩; have hB : ∀ y v, BindAt env s.heap y v -> BindAt env s'.heap y v := fun y v h => by
    cases h with
    | loc m a b c => exact .loc m a (hns m b) c
    | cell c a b d => exact .cell c a b (hcs c _ d)
  have back : ∀ y i p v, cx.vars.lookup y = some i -> lk pe i = some p -> BindAt env s'.heap y v -> BindAt env s.heap y v := fun y i p v hy hp b => by
    obtain ⟨u, hu, _⟩ := r.vars y i p hy hp; have := (hB y u hu).same b; subst this; exact hu
  exact {
    base := {
      keep := fun b o e => hk b o (fun q => by have := r.base.above b0 (.inl hb); have h2 := Heap.lt_size e; rw [q] at h2; exact absurd h2 (Nat.not_lt.mpr this)) (r.base.keep b o e)
      above := r.base.above
      size := Nat.le_trans r.base.size hg
      low := fun b q => Nat.lt_of_lt_of_le (r.base.low b q) hg
      toks := Nat.lt_of_lt_of_le r.base.toks ht
      bare := hbare r.base.bare }
    kind := r.kind
    glb := r.glb
    blt := r.blt
    gl := r.gl
    cl := fun y hy => let ⟨h1, c, v, h2, h3⟩ := r.cl y hy; ⟨h1, c, v, h2, hcs c v h3⟩
    ns := let ⟨m, hm⟩ := r.ns; ⟨m, hns m hm⟩
    noL := r.noL
    apart := r.apart
    cellsLow := fun y c h => Nat.lt_of_lt_of_le (r.cellsLow y c h) hg
    vars := fun y i p h1 h2 => by
      obtain ⟨v, hb', hs⟩ := r.vars y i p h1 h2; refine ⟨v, hB y v hb', ?_, fun h x t e => ⟨(hs.2 h x t e).1, Nat.lt_of_lt_of_le (hs.2 h x t e).2 ht⟩⟩; have h3 := hs.1; split
      · rename_i hc; rw [if_pos hc] at h3; obtain ⟨a, e, q1, q2, q3⟩ := h3; subst e; have hne : a ≠ b0 := fun e => hno (e ▸ r.turns y i a h1 hc (by rw [h2]; rfl) hb'); refine ⟨a, rfl, q1, q2, ?_⟩; cases p <;> simp only [OwnR] at q3 ⊢
        · obtain ⟨vs, h4, h5⟩ := q3; exact ⟨vs, h4.at fun o e => hk _ _ hne e, h5.step S⟩
        · obtain ⟨hs', kvs, hd, hk'⟩ := q3; obtain ⟨o, es, ep, e, q⟩ := hd; exact ⟨hs', kvs, ⟨o, es, ep, hk _ _ hne e, q⟩, hk'⟩
      · rename_i hc; rw [if_neg hc] at h3; exact h3.step S
    stores := fun y hy => by
      cases r.stores y hy with
      | loc h => exact .loc h
      | cell c v₀ h1 h2 h3 h4 => exact .cell c v₀ h1 h2 h3 (hcs c _ h4)
    inj := r.inj
    alone := fun y z i j a h1 h2 h3 h4 h5 h6 h7 h8 => by
      obtain ⟨p, hp⟩ := Option.isSome_iff_exists.mp h3; obtain ⟨q, hq⟩ := Option.isSome_iff_exists.mp h4; exact r.alone y z i j a h1 h2 h3 h4 h5 h6 (back y i p _ h1 hp h7) (back z j q _ h2 hq h8)
    disj := r.disj
    turns := fun y i a h1 h2 h3 h4 => by
      obtain ⟨p, hp⟩ := Option.isSome_iff_exists.mp h3; exact r.turns y i a h1 h2 h3 (back y i p _ h1 hp h4) }
theorem EnvR.pokes {Z Na' : Addr -> Prop} (r : EnvR prog w h₀ cx asg env s Na No pe) (hZ : ∀ b, Z b -> Na b) (hcell : ∀ y c, env.cells.lookup y = some c -> ¬ Z c) (n1 : ∀ b, Na b -> Na' b) (n2 : ∀ b, Na' b -> Na b \/ s.heap.objs.size <= b) (n3 : Low Na' s'.heap)
    (hk : ∀ b o, ¬ Z b -> s.heap.get? b = some o -> s'.heap.get? b = some o) (hg : s.heap.objs.size <= s'.heap.objs.size) (ht : s.toks <= s'.toks) (hbare : AllBare s.gens -> AllBare s'.gens) : EnvR prog w h₀ cx asg env s' Na' No pe := by
  have hno : ∀ b, Z b -> ¬ No b := fun b z q => r.disj b q (hZ b z); have S : Step s.heap (fun b => Na b \/ No b) s'.heap (fun b => Na' b \/ No b) := ⟨fun b o hn e => hk b o (fun q => hn (.inl (hZ b q))) e, hg, fun b q => q.elim (fun q => (n2 b q).elim (fun q => .inl (.inl q)) .inr) fun q => .inl (.inr q)⟩; have hcs : ∀ c v, ¬ Z c -> s.heap.IsCell c v -> s'.heap.IsCell c v := fun c v hz h => let ⟨o, h1, h2⟩ := h; ⟨o, hk c o hz h1, h2⟩; have hL : ¬ Z env.locals := fun e => hno _ e r.noL; have hns : ∀ m, s.heap.Ns env.locals m -> s'.heap.Ns env.locals m := fun m h => let ⟨o, es, ep, x, q⟩ := h; ⟨o, es, ep, hk _ _ hL x, q⟩; have hB : ∀ y v, BindAt env s.heap y v -> BindAt env s'.heap y v := fun y v h => by
    cases h with
    | loc m a b c => exact .loc m a (hns m b) c
    | cell c a b d => exact .cell c a b (hcs c _ (hcell y c b) d)
  have back : ∀ y i p v, cx.vars.lookup y = some i -> lk pe i = some p -> BindAt env s'.heap y v -> BindAt env s.heap y v := fun y i p v hy hp b => by
    obtain ⟨u, hu, _⟩ := r.vars y i p hy hp; have := (hB y u hu).same b; subst this; exact hu
  exact {
    base := {
      keep := fun b o e => hk b o (fun q => absurd (Heap.lt_size e) (Nat.not_lt.mpr (r.base.above b (.inl (hZ b q))))) (r.base.keep b o e)
      above := fun b q => q.elim (fun q => (n2 b q).elim (fun q => r.base.above b (.inl q)) fun q => Nat.le_trans r.base.size q) fun q => r.base.above b (.inr q)
      size := Nat.le_trans r.base.size hg
      low := fun b q => q.elim (n3 b) fun q => Nat.lt_of_lt_of_le (r.base.low b (.inr q)) hg
      toks := Nat.lt_of_lt_of_le r.base.toks ht
      bare := hbare r.base.bare }
    kind := r.kind
    glb := r.glb
    blt := r.blt
    gl := r.gl
    cl := fun y hy => let ⟨h1, c, v, h2, h3⟩ := r.cl y hy; ⟨h1, c, v, h2, hcs c v (hcell y c h2) h3⟩
    ns := let ⟨m, hm⟩ := r.ns; ⟨m, hns m hm⟩
    noL := r.noL
    apart := r.apart
    cellsLow := fun y c h => Nat.lt_of_lt_of_le (r.cellsLow y c h) hg
    vars := fun y i p h1 h2 => by
      obtain ⟨v, hb', hs⟩ := r.vars y i p h1 h2; refine ⟨v, hB y v hb', ?_, fun h x t e => ⟨(hs.2 h x t e).1, Nat.lt_of_lt_of_le (hs.2 h x t e).2 ht⟩⟩; have h3 := hs.1; split
      · rename_i hc; rw [if_pos hc] at h3; obtain ⟨a, e, q1, q2, q3⟩ := h3; subst e; have hne : ¬ Z a := fun e => hno a e (r.turns y i a h1 hc (by rw [h2]; rfl) hb'); refine ⟨a, rfl, q1.elim (fun q => .inl (n1 a q)) .inr, q2, ?_⟩; cases p <;> simp only [OwnR] at q3 ⊢
        · obtain ⟨vs, h4, h5⟩ := q3; exact ⟨vs, h4.at fun o e => hk _ _ hne e, h5.step S⟩
        · obtain ⟨hs', kvs, hd, hk'⟩ := q3; obtain ⟨o, es, ep, e, q⟩ := hd; exact ⟨hs', kvs, ⟨o, es, ep, hk _ _ hne e, q⟩, hk'⟩
      · rename_i hc; rw [if_neg hc] at h3; exact h3.step S
    stores := fun y hy => by
      cases r.stores y hy with
      | loc h => exact .loc h
      | cell c v₀ h1 h2 h3 h4 => exact .cell c v₀ h1 h2 h3 (hcs c _ (hcell y c h2) h4)
    inj := r.inj
    alone := fun y z i j a h1 h2 h3 h4 h5 h6 h7 h8 => by
      obtain ⟨p, hp⟩ := Option.isSome_iff_exists.mp h3; obtain ⟨q, hq⟩ := Option.isSome_iff_exists.mp h4; exact r.alone y z i j a h1 h2 h3 h4 h5 h6 (back y i p _ h1 hp h7) (back z j q _ h2 hq h8)
    disj := fun b hb ha => (n2 b ha).elim (r.disj b hb) fun q => Nat.lt_irrefl _ (Nat.lt_of_lt_of_le (r.base.low b (.inr hb)) q)
    turns := fun y i a h1 h2 h3 h4 => by
      obtain ⟨p, hp⟩ := Option.isSome_iff_exists.mp h3; exact r.turns y i a h1 h2 h3 (back y i p _ h1 hp h4) }
theorem EnvR.wideA {Na' : Addr -> Prop} (r : EnvR prog w h₀ cx asg env s Na No pe) (x : Pure s s') (h1 : ∀ b, Na b -> Na' b) (h2 : ∀ b, Na' b -> Na b \/ s.heap.objs.size <= b) (h3 : Low Na' s'.heap) : EnvR prog w h₀ cx asg env s' Na' No pe := by
  have r' := r.pure x; have S : Step s.heap (fun b => Na b \/ No b) s'.heap (fun b => Na' b \/ No b) := ⟨fun b o _ e => x.keep b o e, x.step.grow, fun b q => q.elim (fun q => (h2 b q).elim (fun q => .inl (.inl q)) .inr) fun q => .inl (.inr q)⟩; exact { r' with
    base := { r'.base with
      above := fun b q => q.elim (fun q => (h2 b q).elim (fun q => r.base.above b (.inl q)) fun q => Nat.le_trans r.base.size q) fun q => r.base.above b (.inr q)
      low := fun b q => q.elim (h3 b) fun q => r'.base.low b (.inr q) }
    vars := fun y i p q1 q2 => by
      obtain ⟨v, hb, hs⟩ := r.vars y i p q1 q2; refine ⟨v, hb.keeps x.keep, ?_, fun h z t e => ⟨(hs.2 h z t e).1, Nat.lt_of_lt_of_le (hs.2 h z t e).2 (Ext.toks x)⟩⟩; have h3 := hs.1; split
      · rename_i hc; rw [if_pos hc] at h3; obtain ⟨a, e, q1, q2, q3⟩ := h3; refine ⟨a, e, q1.elim (fun q => .inl (h1 a q)) .inr, q2, ?_⟩; cases p <;> simp only [OwnR] at q3 ⊢
        · obtain ⟨vs, h4, h5⟩ := q3; exact ⟨vs, h4.at fun o e => x.keep _ _ e, h5.step S⟩
        · obtain ⟨hs', kvs, hd, hk'⟩ := q3; exact ⟨hs', kvs, hd.keep x.keep, hk'⟩
      · rename_i hc; rw [if_neg hc] at h3; exact h3.step S
    disj := fun b hb ha => (h2 b ha).elim (r.disj b hb) fun q => Nat.lt_irrefl _ (Nat.lt_of_lt_of_le (r.base.low b (.inr hb)) q) }
theorem EnvR.narrow {Na' : Addr -> Prop} (r : EnvR prog w h₀ cx asg env s Na' No pe) (h1 : ∀ b, Na b -> Na' b) : EnvR prog w h₀ cx asg env s Na No pe :=
  { r with
    base := { r.base with
      above := fun b q => r.base.above b (q.elim (fun q => .inl (h1 b q)) .inr)
      low := fun b q => r.base.low b (q.elim (fun q => .inl (h1 b q)) .inr) }
    vars := fun y i p q1 q2 => by
      obtain ⟨v, hb, hs⟩ := r.vars y i p q1 q2; refine ⟨v, hb, ?_, hs.2⟩; have h3 := hs.1; split
      · rename_i hc; rw [if_pos hc] at h3; obtain ⟨a, e, q3, q4, q5⟩ := h3; subst e; refine ⟨a, rfl, .inr (r.turns y i a q1 hc (by rw [q2]; rfl) hb), q4, ?_⟩; cases p <;> simp only [OwnR] at q5 ⊢
        · obtain ⟨vs, h4, h5⟩ := q5; exact ⟨vs, h4, h5.weak' fun b q => q.elim (fun q => .inl (h1 b q)) .inr⟩
        · exact q5
      · rename_i hc; rw [if_neg hc] at h3; exact h3.weak' fun b q => q.elim (fun q => .inl (h1 b q)) .inr
    disj := fun b hb ha => r.disj b hb (h1 b ha) }
theorem EnvR.grow {Na' No' : Addr -> Prop} (r : EnvR prog w h₀ cx asg env s Na No pe) (x : Pure s s') (h1 : ∀ b, Na b -> Na' b) (h2 : ∀ b, Na' b -> Na b \/ s.heap.objs.size <= b) (h3 : Low Na' s'.heap)
    (k1 : ∀ b, No b -> No' b) (k2 : ∀ b, No' b -> No b \/ s.heap.objs.size <= b) (k3 : Low No' s'.heap) (hd : ∀ b, No' b -> ¬ Na' b) : EnvR prog w h₀ cx asg env s' Na' No' pe := by
  have r' := r.wide (No' := No') ⟨x, k1, k2, k3⟩; have S : Step s.heap (fun b => Na b \/ No b) s'.heap (fun b => Na' b \/ No' b) := ⟨fun b o _ e => x.keep b o e, x.step.grow, fun b q => q.elim (fun q => (h2 b q).elim (fun q => .inl (.inl q)) .inr) fun q => (k2 b q).elim (fun q => .inl (.inr q)) .inr⟩; exact { r' with
    base := { r'.base with
      above := fun b q => q.elim (fun q => (h2 b q).elim (fun q => r.base.above b (.inl q)) fun q => Nat.le_trans r.base.size q) fun q => r'.base.above b (.inr q)
      low := fun b q => q.elim (h3 b) fun q => r'.base.low b (.inr q) }
    vars := fun y i p q1 q2 => by
      obtain ⟨v, hb, hs⟩ := r.vars y i p q1 q2; refine ⟨v, hb.keeps x.keep, ?_, fun h z t e => ⟨(hs.2 h z t e).1, Nat.lt_of_lt_of_le (hs.2 h z t e).2 (Ext.toks x)⟩⟩; have h3 := hs.1; split
      · rename_i hc; rw [if_pos hc] at h3; obtain ⟨a, e, q1, q2, q3⟩ := h3; refine ⟨a, e, q1.elim (fun q => .inl (h1 a q)) (fun q => .inr (k1 a q)), q2, ?_⟩; cases p <;> simp only [OwnR] at q3 ⊢
        · obtain ⟨vs, h4, h5⟩ := q3; exact ⟨vs, h4.at fun o e => x.keep _ _ e, h5.step S⟩
        · obtain ⟨hs', kvs, hd, hk'⟩ := q3; exact ⟨hs', kvs, hd.keep x.keep, hk'⟩
      · rename_i hc; rw [if_neg hc] at h3; exact h3.step S
    disj := hd }
end
end Mine
end
section
open PySem PySem.W PyProof.Rows
namespace Mine
mutual
inductive PE where
  | cst (c : PV)
  | gcst (c : PV)
  | var (i : Nat)
  | bin (op : Operator) (a b : PE)
  | neg (a : PE)
  | not (a : PE)
  | and (a b : PE)
  | or (a b : PE)
  | ite (t a b : PE)
  | cmp (op : CmpOp) (a b : PE)
  | cmp2 (op op' : CmpOp) (a b c : PE)
  | sub (a i : PE)
  | slc (a lo hi st : PE)
  | list (es : PEs)
  | tup (es : PEs)
  | dict (es : PEs)
  | comp (elt : PE) (tgt : Nat) (src : PI) (hasIf : Bool) (cond : PE)
  | call (f : Nat) (es : PEs)
  | callB (f : Nat) (es : PEs)
  | bi (f : Bi) (es : PEs)
  | me (f : Me) (o : PE) (es : PEs)
  | repl (o : PE) (y : Str) (t : PE) (i : Nat) (z : Str)
inductive PEs where
  | nil
  | cons (e : PE) (es : PEs)
inductive PI where
  | val (e : PE)
  | rng1 (e : PE)
  | rng2 (e f : PE)
  | rng3 (e f : PE)
end
inductive Fl where
  | next
  | brk
  | ret (p : PV)
mutual
inductive PS where
  | asg (i : Nat) (e : PE)
  | asgO (i : Nat) (e : PE)
  | newD (i : Nat)
  | asgT (ts : List Nat) (e : PE)
  | aug (i : Nat) (op : Operator) (e : PE)
  | ext (i : Nat) (e : PE)
  | app (i : Nat) (e : PE)
  | pop (j i : Nat)
  | setI (i : Nat) (k v : PE)
  | ite (t : PE) (a b : PSs)
  | for (ts : List Nat) (src : PI) (body : PSs)
  | esc (ts : List Nat) (e : PE) (body : PSs)
  | while (fuel : Nat) (t : PE) (body : PSs)
  | ret (e : PE)
  | brk
inductive PSs where
  | nil
  | cons (s : PS) (ss : PSs)
end
def itemsF : PV -> Option (List PV)
  | .lst l => if l.length <= 100000 then some l else none
  | .tup l => if l.length <= 100000 then some l else none
  | .str x => if x.length <= 100000 /\ x.cps.all (· < 128) then some (x.cps.toList.map fun c => .str ⟨#[c]⟩) else none
  | _ => none
def rangeF (a b : Int) : Option (List PV) :=
  if -(2 ^ 40) < a /\ a < 2 ^ 40 /\ -(2 ^ 40) < b /\ b < 2 ^ 40 /\ b - a <= 100000 then some ((List.range (b - a).toNat).map fun k : Nat => PV.int (a + (k : Int))) else none
def rangeD (a b : Int) : Option (List PV) :=
  if -(2 ^ 40) < a /\ a < 2 ^ 40 /\ -(2 ^ 40) < b /\ b < 2 ^ 40 /\ a - b <= 100000 then some ((List.range (a - b).toNat).map fun k : Nat => PV.int (a - (k : Int))) else none
def bindAll : List Nat -> List PV -> PEnv -> Option PEnv
  | [], [], pe => some pe
  | i :: ts, p :: ps, pe => bindAll ts ps (st pe i p)
  | _, _, _ => none
def bindT : List Nat -> PV -> PEnv -> Option PEnv
  | [i], p, pe => some (st pe i p)
  | i :: j :: ts, .tup l, pe => bindAll (i :: j :: ts) l pe
  | i :: j :: ts, .lst l, pe => bindAll (i :: j :: ts) l pe
  | _, _, _ => none
def compF (c : PEnv -> Option PV) (e : PEnv -> Option PV) (hasIf : Bool) (tg : Nat) (pe : PEnv) : List PV -> Option (List PV)
  | [] => some []
  | p :: l => match (if hasIf then c (st pe tg p) else some (.bool true)) with
    | some (.bool true) => match e (st pe tg p), compF c e hasIf tg pe l with
      | some v, some r => some (v :: r)
      | _, _ => none
    | some (.bool false) => compF c e hasIf tg pe l
    | _ => none
def partF : PV -> Option (Option Int)
  | .none => some none
  | .int i => some (some i)
  | _ => none
def dictF : List PV -> Option (List (Int × SV))
  | [] => some []
  | .int k :: .int v :: r => match dictF r with
    | some l => if (l.map (·.1)).contains k then none else some ((k, .i v) :: l)
    | none => none
  | .int k :: .str v :: r => match dictF r with
    | some l => if (l.map (·.1)).contains k then none else some ((k, .t v) :: l)
    | none => none
  | _ => none
mutual
def denE (F : Nat -> List PV -> Option PV) : PE -> PEnv -> Option PV
  | .cst c, _ => some c
  | .gcst c, _ => some c
  | .var i, pe => lk pe i
  | .bin op a b, pe => match denE F a pe, denE F b pe with
    | some x, some y => binF op x y
    | _, _ => none
  | .neg a, pe => match denE F a pe with
    | some (.int x) => some (.int (-x))
    | _ => none
  | .not a, pe => match denE F a pe with
    | some (.bool x) => some (.bool (!x))
    | _ => none
  | .and a b, pe => match denE F a pe with
    | some (.bool true) => match denE F b pe with
      | some (.bool x) => some (.bool x)
      | _ => none
    | some (.bool false) => some (.bool false)
    | _ => none
  | .or a b, pe => match denE F a pe with
    | some (.bool false) => match denE F b pe with
      | some (.bool x) => some (.bool x)
      | _ => none
    | some (.bool true) => some (.bool true)
    | _ => none
  | .ite t a b, pe => match denE F t pe with
    | some (.bool true) => denE F a pe
    | some (.bool false) => denE F b pe
    | _ => none
  | .cmp op a b, pe => match denE F a pe, denE F b pe with
    | some x, some y => (cmpF op x y).map .bool
    | _, _ => none
  | .cmp2 op op' a b c, pe => match denE F a pe, denE F b pe with
    | some x, some y => match cmpF op x y with
      | some true => match denE F c pe with
        | some z => (cmpF op' y z).map .bool
        | none => none
      | some false => some (.bool false)
      | none => none
    | _, _ => none
  | .sub a i, pe => match denE F a pe, denE F i pe with
    | some x, some y => getF x y
    | _, _ => none
  | .slc a lo hi st, pe => match denE F a pe, denE F lo pe, denE F hi pe, denE F st pe with
    | some x, some l, some h, some s => match partF l, partF h, partF s with
      | some l, some h, some s => sliceF x l h s
      | _, _, _ => none
    | _, _, _, _ => none
  | .list es, pe => (denEs F es pe).map .lst
  | .tup es, pe => (denEs F es pe).map .tup
  | .dict es, pe => match denEs F es pe with
    | some l => (dictF l).map .dcti
    | none => none
  | .comp elt tg src hasIf c, pe => match denI F src pe with
    | some items => (compF (denE F c) (denE F elt) hasIf tg pe items).map .lst
    | none => none
  | .call f es, pe => match denEs F es pe with
    | some l => F f l
    | none => none
  | .callB f es, pe => match denEs F es pe with
    | some l => match F f l with
      | some r => if r.scalar then some r else none
      | none => none
    | none => none
  | .bi f es, pe => match denEs F es pe with
    | some l => biF f l
    | none => none
  | .me f o es, pe => match denE F o pe, denEs F es pe with
    | some x, some l => meF f x l
    | _, _ => none
  | .repl o y t i z, pe => match denE F o pe, denE F t pe, lk pe i with
    | some (.str x), some (.bool b), some (.str u) =>
      if x.length <= 1000 /\ u.length <= 10 /\ z.length <= 10 /\ (y == u) = false /\ (y == z) = false then some (.str (Txt.replace x y (if b then u else z))) else none
    | _, _, _ => none
def denEs (F : Nat -> List PV -> Option PV) : PEs -> PEnv -> Option (List PV)
  | .nil, _ => some []
  | .cons e es, pe => match denE F e pe, denEs F es pe with
    | some x, some l => some (x :: l)
    | _, _ => none
def denI (F : Nat -> List PV -> Option PV) : PI -> PEnv -> Option (List PV)
  | .val e, pe => match denE F e pe with
    | some p => itemsF p
    | none => none
  | .rng1 e, pe => match denE F e pe with
    | some (.int n) => rangeF 0 n
    | _ => none
  | .rng2 e f, pe => match denE F e pe, denE F f pe with
    | some (.int a), some (.int b) => rangeF a b
    | _, _ => none
  | .rng3 e f, pe => match denE F e pe, denE F f pe with
    | some (.int a), some (.int b) => rangeD a b
    | _, _ => none
end
def forF (body : PEnv -> Option (PEnv × Fl)) (tg : List Nat) : List PV -> PEnv -> Option (PEnv × Fl)
  | [], pe => some (pe, .next)
  | p :: l, pe => match bindT tg p pe with
    | none => none
    | some pe1 => match body pe1 with
      | some (pe2, .next) => forF body tg l pe2
      | some (pe2, .brk) => some (pe2, .next)
      | some (pe2, .ret v) => some (pe2, .ret v)
      | none => none
def whileF (t : PEnv -> Option PV) (body : PEnv -> Option (PEnv × Fl)) : Nat -> PEnv -> Option (PEnv × Fl)
  | 0, _ => none
  | n + 1, pe => match t pe with
    | some (.bool false) => some (pe, .next)
    | some (.bool true) => match body pe with
      | some (pe2, .next) => whileF t body n pe2
      | some (pe2, .brk) => some (pe2, .next)
      | some (pe2, .ret v) => some (pe2, .ret v)
      | none => none
    | _ => none
def escF : Nat -> Bool -> List Nat -> List PV
  | k, true, [] => [.tup [.int ((k : Int) - 1), .str ⟨#[92]⟩]]
  | _, false, [] => []
  | k, true, c :: l => .tup [.int k, .str ⟨#[92, c]⟩] :: escF (k + 1) false l
  | k, false, c :: l => if c = 92 then escF (k + 1) true l else .tup [.int k, .str ⟨#[c]⟩] :: escF (k + 1) false l
def escItems : PV -> Option (List PV)
  | .str x => if x.length <= 10000 /\ x.cps.all (· < 128) then some (escF 0 false x.cps.toList) else none
  | _ => none
def augF : Operator -> PV -> PV -> Option PV
  | .Add, .int x, .int y => some (.int (x + y))
  | .Sub, .int x, .int y => some (.int (x - y))
  | .Add, .str x, .str y => if x.length + y.length <= 100000 then some (.str (x ++ y)) else none
  | _, _, _ => none
mutual
def denS (F : Nat -> List PV -> Option PV) : PS -> PEnv -> Option (PEnv × Fl)
  | .asg i e, pe => match denE F e pe with
    | some p => some (st pe i p, .next)
    | none => none
  | .asgO i e, pe => match denE F e pe with
    | some (.lst l) => some (st pe i (.lst l), .next)
    | _ => none
  | .newD i, pe => some (st pe i (.dcti []), .next)
  | .asgT ts e, pe => match denE F e pe with
    | some p => match bindT ts p pe with
      | some pe' => some (pe', .next)
      | none => none
    | none => none
  | .aug i op e, pe => match lk pe i, denE F e pe with
    | some x, some y => match augF op x y with
      | some z => some (st pe i z, .next)
      | none => none
    | _, _ => none
  | .ext i e, pe => match lk pe i, denE F e pe with
    | some (.lst x), some (.lst y) => if x.length + y.length <= 100000 then some (st pe i (.lst (x ++ y)), .next) else none
    | _, _ => none
  | .app i e, pe => match lk pe i, denE F e pe with
    | some (.lst x), some y => if x.length <= 100000 then some (st pe i (.lst (x ++ [y])), .next) else none
    | _, _ => none
  | .pop j i, pe => match lk pe i with
    | some (.lst x) => match x.getLast? with
      | some y => if x.length <= 100000 then some (st (st pe i (.lst x.dropLast)) j y, .next) else none
      | none => none
    | _ => none
  | .setI i k v, pe => match lk pe i, denE F k pe, denE F v pe with
    | some (.dcti l), some (.int k), some (.str v) =>
      if (l.lookup k).isSome || decide (l.length > 10000) then none else some (st pe i (.dcti (l ++ [(k, .t v)])), .next)
    | _, _, _ => none
  | .ite t a b, pe => match denE F t pe with
    | some (.bool true) => denSs F a pe
    | some (.bool false) => denSs F b pe
    | _ => none
  | .for ts src body, pe => match denI F src pe with
    | some items => forF (denSs F body) ts items pe
    | none => none
  | .esc ts e body, pe => match denE F e pe with
    | some p => match escItems p with
      | some items => forF (denSs F body) ts items pe
      | none => none
    | none => none
  | .while n t body, pe => whileF (denE F t) (denSs F body) n pe
  | .ret e, pe => match denE F e pe with
    | some p => some (pe, .ret p)
    | none => none
  | .brk, pe => some (pe, .brk)
def denSs (F : Nat -> List PV -> Option PV) : PSs -> PEnv -> Option (PEnv × Fl)
  | .nil, pe => some (pe, .next)
  | .cons s ss, pe => match denS F s pe with
    | some (pe', .next) => denSs F ss pe'
    | r => r
end
end Mine
end
section
open PySem PySem.W PyProof.Rows
namespace Mine
inductive G where
  | bi (b : Bi)
  | fn (f : Nat)
  | cst (p : PV)
  | rng
  | enum
  | gen
def constEq : Const -> PV -> Bool
  | .none, .none => true
  | .bool a, .bool b => a == b
  | .int a, .int b => a == b
  | .float a, .flt b => a == b
  | .str a, .str b => a == b
  | _, _ => false
def pvEq : PV -> PV -> Bool
  | .int a, .int b => a == b
  | .flt a, .flt b => a == b
  | .dcts a, .dcts b => a == b
  | _, _ => false
theorem pvEq_eq {p q : PV} (h : pvEq p q = true) : p = q := by
  unfold pvEq at h; split at h
  · rw [eq_of_beq h]
  · rw [eq_of_beq h]
  · rw [eq_of_beq h]
  · cases h
def isName (e : PySem.Expr) (x : Str) : Bool := match e with
  | .Name y _ => y == x
  | _ => false
def notDebug (x : Str) : Bool := !(x == ("__debug__" : Str)) && !(x == ("__classdict__" : Str))
def compCx (cx : Cx) (names : List (Str × NameKind)) (x : Str) (i : Nat) : Cx :=
  { vars := (x, i) :: names.filterMap fun (n, k) => if k == .free then (cx.vars.lookup n).map fun j => (n, j) else none
    kinds := names, own := cx.own, tk := [], top := cx.top }
def nodupB {α : Type} [BEq α] : List α -> Bool
  | [] => true
  | a :: l => !l.contains a && nodupB l
def ofBi (b : Bi) : G -> Bool
  | .bi c => b == c
  | _ => false
def isFn (f : Nat) : G -> Bool
  | .fn g => f == g
  | _ => false
def isRng : G -> Bool
  | .rng => true
  | _ => false
def isEnumG : G -> Bool
  | .enum => true
  | _ => false
def isGenG : G -> Bool
  | .gen => true
  | _ => false
def isCst (p : PV) : G -> Bool
  | .cst q => pvEq q p
  | _ => false
def notStar (e : PySem.Expr) : Bool := match e with | .Starred _ _ => false | _ => true
def notCall0 (e : PySem.Expr) : Bool := match e with | .Call _ [] [] _ => false | _ => true
def isNoneC : PE -> Bool
  | .cst .none => true
  | _ => false
section
variable (GL : List (Str × G))
def globB (cx : Cx) (e : PySem.Expr) (f : G -> Bool) : Bool := match e with
  | .Name x _ => cx.kinds.lookup x == some .globalImplicit && notDebug x && (match GL.lookup x with | some g => f g | none => false)
  | _ => false
def compOk (cx : Cx) (sc : Scope) (x : Str) (i : Nat) : Bool :=
  sc.kind == .function && !sc.isGenerator && !sc.isCoroutine && nodupB (sc.names.map (·.1)) &&
  (sc.names.lookup x == some .local || sc.names.lookup x == some .cell) &&
  (sc.names.all fun nk => (nk.2 == .local && (nk.1 == x || nk.1 == (".0" : Str))) || (nk.2 == .cell && nk.1 == x) || nk.2 == .globalImplicit || (nk.2 == .free && (cx.vars.lookup nk.1).isSome && !(cx.vars.lookup nk.1 == some i) && (cx.kinds.lookup nk.1 == some .cell || cx.kinds.lookup nk.1 == some .free))) &&
  !cx.own.contains i
mutual
def chkE (cx : Cx) (b : Bool) : PySem.Expr -> PE -> Bool
  | e, .cst c => match e with
    | .Constant k _ _ => constEq k c
    | _ => false
  | e, .gcst c => globB GL cx e (isCst c)
  | e, .var i => match e with
    | .Name x _ => cx.vars.lookup x == some i && notDebug x && (b || !cx.own.contains i)
    | _ => false
  | e, .bin op p q => match e with
    | .BinOp l o r _ => o == op && chkE cx true l p && chkE cx true r q
    | _ => false
  | e, .neg p => match e with
    | .UnaryOp .USub x _ => chkE cx true x p
    | _ => false
  | e, .not p => match e with
    | .UnaryOp .Not x _ => chkE cx true x p
    | _ => false
  | e, .and p q => match e with
    | .BoolOp .And [x, y] _ => chkE cx true x p && chkE cx true y q
    | _ => false
  | e, .or p q => match e with
    | .BoolOp .Or [x, y] _ => chkE cx true x p && chkE cx true y q
    | _ => false
  | e, .ite t p q => match e with
    | .IfExp c x y _ => chkE cx true c t && chkE cx b x p && chkE cx b y q
    | _ => false
  | e, .cmp op p q => match e with
    | .Compare l [o] [r] _ => o == op && chkE cx true l p && chkE cx true r q
    | _ => false
  | e, .cmp2 op op' p q r => match e with
    | .Compare l [o, o'] [m, k] _ => o == op && o' == op' && chkE cx true l p && chkE cx true m q && chkE cx true k r
    | _ => false
  | e, .sub p q => match e with
    | .Subscript x i _ => chkE cx true x p && chkE cx true i q
    | _ => false
  | e, .slc p lo hi st => match e with
    | .Subscript x (.Slice l h s _) _ => chkE cx true x p && (match l with | none => isNoneC lo | some e => chkE cx true e lo) && (match h with | none => isNoneC hi | some e => chkE cx true e hi) && (match s with | none => isNoneC st | some e => chkE cx true e st)
    | _ => false
  | e, .list es => match e with
    | .List xs _ => chkEs cx false xs es && decide (xs.length <= 100)
    | _ => false
  | e, .tup es => match e with
    | .Tuple xs _ _ => chkEs cx false xs es && decide (xs.length <= 100)
    | _ => false
  | e, .dict es => match e with
    | .Dict ks vs _ => chkD cx ks vs es && decide (vs.length <= 15) && !vs.isEmpty
    | _ => false
  | e, .comp elt tg src hasIf c => match e with
    | .ListComp el [⟨.Name x _, it, ifs, 0⟩] sc _ =>
      chkI cx it src && compOk cx sc x tg && chkE (compCx cx sc.names x tg) false el elt &&
      (match ifs with
       | [] => !hasIf
       | [t] => hasIf && chkE (compCx cx sc.names x tg) true t c
       | _ => false)
    | _ => false
  | e, .call f es => match e with
    | .Call g xs [] _ => globB GL cx g (isFn f) && chkEs cx false xs es && decide (0 < xs.length /\ xs.length <= 20)
    | _ => false
  | e, .callB f es => match e with
    | .Call g xs [] _ => cx.top && globB GL cx g (isFn f) && chkEs cx true xs es && decide (0 < xs.length /\ xs.length <= 20)
    | _ => false
  | e, .bi f es => match e with
    | .Call g xs [] _ => globB GL cx g (ofBi f) && chkEs cx true xs es && decide (0 < xs.length /\ xs.length <= 20)
    | _ => false
  | e, .me f o es => match e with
    | .Call (.Attribute x n apos) xs [] pos => (match f with
        | .join => n == ("join" : Str) | .count => n == ("count" : Str) | .index => n == ("index" : Str) | .get => n == ("get" : Str)) &&
      chkE cx true x o && chkEs cx true xs es && decide (0 < xs.length /\ xs.length <= 20) && apos.endLine == pos.line && notCall0 x
    | _ => false
  | e, .repl o y t i z => match e with
    | .Call (.Attribute x n apos) [.Constant (.str y') _ _, .IfExp c (.Name u _) (.Constant (.str z') _ _) _] [] pos => n == ("replace" : Str) &&
      chkE cx true x o && y' == y && z' == z && chkE cx true c t && cx.vars.lookup u == some i && notDebug u && cx.tk.contains i && !cx.own.contains i && apos.endLine == pos.line && notCall0 x
    | _ => false
def chkEs (cx : Cx) (b : Bool) : List PySem.Expr -> PEs -> Bool
  | xs, .nil => xs.isEmpty
  | xs, .cons p ps => match xs with
    | x :: xs => notStar x && chkE cx b x p && chkEs cx b xs ps
    | [] => false
def chkD (cx : Cx) : List (Option PySem.Expr) -> List PySem.Expr -> PEs -> Bool
  | ks, vs, .nil => ks.isEmpty && vs.isEmpty
  | ks, vs, .cons p .nil => false
  | ks, vs, .cons p (.cons q ps) => match ks, vs with
    | some k :: ks, v :: vs => chkE cx false k p && chkE cx false v q && chkD cx ks vs ps
    | _, _ => false
def chkI (cx : Cx) : PySem.Expr -> PI -> Bool
  | e, .val p => chkE cx false e p
  | e, .rng1 p => match e with
    | .Call g [x] [] _ => globB GL cx g isRng && chkE cx true x p && notStar x
    | _ => false
  | e, .rng2 p q => match e with
    | .Call g [x, y] [] _ => globB GL cx g isRng && chkE cx true x p && chkE cx true y q && notStar x && notStar y
    | _ => false
  | e, .rng3 p q => match e with
    | .Call g [x, y, .UnaryOp .USub (.Constant (.int 1) _ _) _] [] _ => globB GL cx g isRng && chkE cx true x p && chkE cx true y q && notStar x && notStar y
    | _ => false
end
end
end Mine
end
section
open PySem PySem.W PyProof.Rows
namespace Mine
mutual
def nd : PE -> Nat
  | .cst _ | .gcst _ | .var _ => 0
  | .bin _ a b | .and a b | .or a b | .cmp _ a b | .sub a b => max (nd a) (nd b)
  | .neg a | .not a => nd a
  | .ite a b c | .cmp2 _ _ a b c => max (nd a) (max (nd b) (nd c))
  | .slc a b c d => max (max (nd a) (nd b)) (max (nd c) (nd d))
  | .list es | .tup es | .dict es | .call _ es | .callB _ es | .bi _ es => nds es
  | .me _ o es => max (nd o) (nds es)
  | .repl o _ t _ _ => max (nd o) (nd t)
  | .comp e _ src _ c => max (ndi src) (max (nd e) (nd c)) + 3
def nds : PEs -> Nat
  | .nil => 0
  | .cons e es => max (nd e) (nds es)
def ndi : PI -> Nat
  | .val e | .rng1 e => nd e
  | .rng2 e f | .rng3 e f => max (nd e) (nd f)
end
def GV (prog : Program) (w : World) (h₀ : Heap) (fa : Nat -> Addr) (v : Value) : G -> Prop
  | .bi b => v = biV b
  | .fn f => v = .ref (fa f) /\ ∃ o fd, h₀.get? (fa f) = some o /\ o.data = .func fd
  | .cst p => RV prog w h₀ No0 v p
  | .rng => v = .type "range"
  | .enum => v = .type "enumerate"
  | .gen => v = .ref (fa 1000) /\ ∃ o fd, h₀.get? (fa 1000) = some o /\ o.data = .func fd
structure Glo (prog : Program) (w : World) (h₀ : Heap) (GL : List (Str × G)) (fa : Nat -> Addr) : Prop where
  noshare : NoShare h₀
  nolimit : h₀.NoLimit
  big : sysModules < h₀.objs.size
  names : ∃ mg mb, h₀.Ns mainGlobals mg /\ h₀.Ns builtinsNs mb /\ ∀ x g, GL.lookup x = some g -> ∃ v, (mg x = some v \/ (mg x = none /\ mb x = some v)) /\ GV prog w h₀ fa v g
def FunOK (prog : Program) (w : World) (h₀ : Heap) (F : Nat -> List PV -> Option PV) (fa : Nat -> Addr) (B : Nat) : Prop :=
  ∀ (f : Nat) (A : Around) (s : Shared) (N : Addr -> Prop) (vs : List Value) (ps : List PV) (r : PV) (Q : Value -> Shared -> Prop) (E : Value -> Shared -> Prop),
    Room A B -> Base h₀ s N -> RVs prog w s.heap N vs ps -> F f ps = some r -> (∀ v s', Pure s s' -> RV prog w s'.heap N v r -> Q v s') -> wpAny (model prog w) A (call (.ref (fa f)) vs) Q E s
def freshP : PE -> Bool
  | .list _ => true
  | .comp .. => true
  | .bin _ _ _ => true
  | .slc .. => true
  | _ => false
def tokP : PE -> Bool
  | .sub (.cst (.str _)) _ => true
  | _ => false
structure Out (prog : Program) (w : World) (top : Bool) (s s' : Shared) (Na No : Addr -> Prop) (b : Bool) (p : PE) (v : Value) (r : PV) : Prop where
  t : RT prog w s'.heap (fun b => Na b \/ No b) v r
  a : top = true -> RV prog w s'.heap Na v r
  f : b = false -> RV prog w s'.heap (fun b => Na b \/ No b) v r
  fresh : freshP p = true -> ∀ l, r = .lst l -> FreshL prog w s.heap s'.heap (fun b => Na b \/ No b) v l
  tok : tokP p = true -> ∀ y t, v = .str y t -> t ≠ 0 /\ t < s'.toks
mutual
theorem RV.weak {prog : Program} {w : World} {h : Heap} {N N' : Addr -> Prop} (hn : ∀ b, N' b -> N b) : ∀ {v : Value} {p : PV}, RV prog w h N v p -> RV prog w h N' v p
  | _, _, .none => .none
  | _, _, .bool b => .bool b
  | _, _, .int n t => .int n t
  | _, _, .flt x t ht => .flt x t ht
  | _, _, .str x t => .str x t
  | _, _, .tup a b c => .tup (fun q => a (hn _ q)) b (RVs.weak hn c)
  | _, _, .lst a b c => .lst (fun q => a (hn _ q)) b (RVs.weak hn c)
  | _, _, .dcti a b => .dcti (fun q => a (hn _ q)) b
  | _, _, .dcts a b => .dcts (fun q => a (hn _ q)) b
theorem RVs.weak {prog : Program} {w : World} {h : Heap} {N N' : Addr -> Prop} (hn : ∀ b, N' b -> N b) : ∀ {vs : List Value} {ps : List PV}, RVs prog w h N vs ps -> RVs prog w h N' vs ps
  | _, _, .nil => .nil
  | _, _, .cons a b => .cons (RV.weak hn a) (RVs.weak hn b)
end
theorem Out.of {prog : Program} {w : World} {top : Bool} {s s' : Shared} {Na No : Addr -> Prop} {b : Bool} {p : PE} {v : Value} {r : PV} (h : RV prog w s'.heap (fun b => Na b \/ No b) v r) (hf : freshP p = false) (ht : tokP p = false) : Out prog w top s s' Na No b p v r :=
  ⟨h.rt, fun _ => h.weak fun _ q => .inl q, fun _ => h, fun q => by rw [hf] at q; (cases q), fun q => by rw [ht] at q; (cases q)⟩
theorem Out.res {prog : Program} {w : World} {top : Bool} {s₀ s s' : Shared} {Na No : Addr -> Prop} {b : Bool} {p : PE} {v : Value} {r : PV} (hp : Pure s₀ s) (h : Res prog w s s' (fun b => Na b \/ No b) v r) (ht : tokP p = false) : Out prog w top s₀ s' Na No b p v r :=
  ⟨h.1.rt, fun _ => h.1.weak fun _ q => .inl q, fun _ => h.1, fun _ l e => by
    obtain ⟨a, vs, h1, h2, h3, h4⟩ := h.2 l e; exact ⟨a, vs, h1, Nat.le_trans hp.step.grow h2, h3, h4⟩, fun q => by rw [ht] at q; (cases q)⟩
theorem RT.pure {prog : Program} {w : World} {s s' : Shared} {N : Addr -> Prop} {v : Value} {p : PV} (r : RT prog w s.heap N v p) (x : Pure s s') : RT prog w s'.heap N v p := by
  have S := x.stepAt N; cases r with
  | none => exact .none
  | bool b => exact .bool b
  | int n t => exact .int n t
  | flt x t ht => exact .flt x t ht
  | str x t => exact .str x t
  | tup b c => obtain ⟨n, e⟩ := b; exact .tup ⟨n, x.keep _ _ e⟩ (c.step S)
  | lst b c => obtain ⟨n, e⟩ := b; exact .lst ⟨n, x.keep _ _ e⟩ (c.step S)
  | dcti b => obtain ⟨hs, kvs, hd, hk⟩ := b; exact .dcti ⟨hs, kvs, hd.keep x.keep, hk⟩
  | dcts b => obtain ⟨hs, kvs, hd, hk⟩ := b; exact .dcts ⟨hs, kvs, hd.keep x.keep, hk⟩
section
variable (prog : Program) (w : World) (h₀ : Heap) (GL : List (Str × G)) (F : Nat -> List PV -> Option PV) (fa : Nat -> Addr) (B : Nat)
def EvalP (p : PE) : Prop := ∀ {A : Around} {cx : Cx} {asg : List Str} {env : Env} {s : Shared} {Na No : Addr -> Prop} {pe : PEnv} {b : Bool} {e : PySem.Expr} {r : PV} {Q : Value -> Shared -> Prop} {E : Value -> Shared -> Prop},
  Room A (nd p + B) -> EnvR prog w h₀ cx asg env s Na No pe -> chkE GL cx b e p = true -> denE F p pe = some r ->
  (∀ v s', Pure s s' -> Out prog w cx.top s s' Na No b p v r -> Q v s') -> wpAny (model prog w) A (eval e env) Q E s
def TrueP (p : PE) : Prop := ∀ {A : Around} {cx : Cx} {asg : List Str} {env : Env} {s : Shared} {Na No : Addr -> Prop} {pe : PEnv} {b : Bool} {e : PySem.Expr} {r : Bool} {Q : Bool -> Shared -> Prop} {E : Value -> Shared -> Prop},
  Room A (nd p + B) -> EnvR prog w h₀ cx asg env s Na No pe -> chkE GL cx b e p = true -> denE F p pe = some (.bool r) ->
  (∀ s', Pure s s' -> Q r s') -> wpAny (model prog w) A (isTrue e env (eval e env)) Q E s
def EvalsP (ps : PEs) : Prop := ∀ {A : Around} {cx : Cx} {asg : List Str} {env : Env} {s : Shared} {Na No : Addr -> Prop} {pe : PEnv} {b : Bool} {es : List PySem.Expr} {rs : List PV} {pos : Pos} {Q : List Value -> Shared -> Prop} {E : Value -> Shared -> Prop},
  Room A (nds ps + B) -> EnvR prog w h₀ cx asg env s Na No pe -> chkEs GL cx b es ps = true -> denEs F ps pe = some rs ->
  (∀ vs s', Pure s s' -> RTs prog w s'.heap (fun b => Na b \/ No b) vs rs -> (cx.top = true -> RVs prog w s'.heap Na vs rs) -> (b = false -> RVs prog w s'.heap (fun b => Na b \/ No b) vs rs) -> vs.length = es.length -> Q vs s') ->
  wpAny (model prog w) A (spliced (backTo pos (starEach es env))) Q E s
end
section
variable {prog : Program} {w : World} {h₀ : Heap} {GL : List (Str × G)} {F : Nat -> List PV -> Option PV} {fa : Nat -> Addr} {B : Nat}
variable {A : Around} {cx : Cx} {asg : List Str} {env : Env} {s : Shared} {Na No : Addr -> Prop} {pe : PEnv} {E : Value -> Shared -> Prop}
theorem glob_sound {x : Str} {g : G} {pos : Pos} {Q : Value -> Shared -> Prop} (GK : Glo prog w h₀ GL fa) (r : EnvR prog w h₀ cx asg env s Na No pe) (h1 : cx.kinds.lookup x = some .globalImplicit) (h2 : notDebug x = true) (h3 : GL.lookup x = some g)
    (hQ : ∀ v, GV prog w h₀ fa v g -> Q v s) : wpAny (model prog w) A (eval (.Name x pos) env) Q E s := by
  obtain ⟨mg, mb, hg, hb, hn⟩ := GK.names; obtain ⟨v, hv, hgv⟩ := hn x g h3; refine Calls.Name_function_global r.kind (r.gl x h1) ?_ (by simp only [notDebug, Bool.and_eq_true, Bool.not_eq_true'] at h2; exact h2.1); rcases hv with hv | ⟨h4, h5⟩
  · exact Calls.loadGlobal_global (by rw [r.glb]; exact hg.keeps r.base.keep) hv (hQ v hgv)
  · exact Calls.loadGlobal_builtin (by rw [r.glb]; exact hg.keeps r.base.keep) h4 (by rw [r.blt]; exact hb.keeps r.base.keep) h5 (hQ v hgv)
theorem globB_inv {e : PySem.Expr} {f : G -> Bool} (h : globB GL cx e f = true) : ∃ x pos g, e = .Name x pos /\ cx.kinds.lookup x = some .globalImplicit /\ notDebug x = true /\ GL.lookup x = some g /\ f g = true := by
  unfold globB at h; split at h
  · rename_i x pos; simp only [Bool.and_eq_true] at h; split at h
    · rename_i g hg; exact ⟨x, pos, g, rfl, eq_of_beq h.1.1, h.1.2, hg, h.2⟩
    · exact absurd h.2 (by simp)
  · cases h
theorem eval_cst (c : PV) : EvalP prog w h₀ GL F B (.cst c) := by
  intro A cx asg env s Na No pe b e r Q E R X hc hd hQ; simp only [denE, Option.some.injEq] at hd; subst hd; unfold chkE at hc; split at hc
  · rename_i k _ _; show wpAny _ _ (constValue env k) Q E s; unfold constEq at hc; split at hc
    · exact wpAny_pure (hQ _ _ (Ext.refl _ _) (.of .none rfl rfl))
    · rw [eq_of_beq hc]; exact wpAny_pure (hQ _ _ (Ext.refl _ _) (.of (.bool _) rfl rfl))
    · rw [eq_of_beq hc]; exact wpAny_mkInt (hQ _ _ (Pure.toks _) (.of (.int _ _) rfl rfl))
    · rw [eq_of_beq hc]; exact wpAny_mkFloat (hQ _ _ (Pure.toks _) (.of (.flt _ _ (Nat.ne_of_gt X.base.toks)) rfl rfl))
    · rw [eq_of_beq hc]; exact wpAny_mkText (hQ _ _ (Pure.toks _) (.of (.str _ _) rfl rfl))
    · cases hc
  · cases hc
theorem eval_gcst (GK : Glo prog w h₀ GL fa) (c : PV) : EvalP prog w h₀ GL F B (.gcst c) := by
  intro A cx asg env s Na No pe b e r Q E R X hc hd hQ; simp only [denE, Option.some.injEq] at hd; subst hd; unfold chkE at hc; obtain ⟨x, pos, g, rfl, h1, h2, h3, h4⟩ := globB_inv hc; refine glob_sound GK X h1 h2 h3 fun v hv => ?_; unfold isCst at h4; split at h4
  · rename_i q; have := pvEq_eq h4; subst this; refine hQ _ _ (Ext.refl _ _) (.of (RV.step (h := h₀) (N := No0) ⟨fun b o _ e => X.base.keep b o e, X.base.size, fun b hb => .inr (X.base.above b hb)⟩ hv) rfl rfl)
  · cases h4
theorem BindAt.name {x : Str} {v : Value} {pos : Pos} {Q : Value -> Shared -> Prop} (k : env.scope.kind = .function) (b : BindAt env s.heap x v) (h2 : notDebug x = true) (h : Q v s) : wpAny (model prog w) A (eval (.Name x pos) env) Q E s := by
  have hd : (x == ("__debug__" : Str)) = false /\ (x == ("__classdict__" : Str)) = false := by simpa only [notDebug, Bool.and_eq_true, Bool.not_eq_true'] using h2
  refine wpAny_Name ?_ hd.1; cases b with
  | loc m h1 h3 h4 => exact wpAny_loadName_local k h1 h3 h4 h
  | cell c h1 h3 h4 =>
    rcases h1 with h1 | h1
    · exact wpAny_loadName_cell k h1 h3 h4 h
    · exact wpAny_loadName_free k h1 h3 h4 h hd.2
theorem SlotR.out {i : Nat} {v : Value} {p : PV} {b : Bool} (hs : SlotR prog w cx env s (fun b => Na b \/ No b) i v p) (hb : (b || !cx.own.contains i) = true) (hx : cx.top = true -> ∀ a, v = .ref a -> cx.own.contains i = true -> ¬ Na a) :
    Out prog w cx.top s s Na No b (.var i) v p := by
  have h1 := hs.1
  by_cases ho : cx.own.contains i = true
  · rw [if_pos ho] at h1; obtain ⟨a, rfl, ha, hl, hr⟩ := h1; have hbt : b = true := by cases b <;> simp_all
    subst hbt; cases p <;> simp only [OwnR] at hr
    · obtain ⟨vs, h4, h5⟩ := hr; exact { t := .lst h4 h5, a := fun ht => .lst (hx ht a rfl ho) h4 (h5.weak fun _ q => .inl q), f := fun q => (nomatch q), fresh := fun q => (nomatch q), tok := fun q => (nomatch q) }
    · exact { t := .dcti hr, a := fun ht => .dcti (hx ht a rfl ho) hr, f := fun q => (nomatch q), fresh := fun q => (nomatch q), tok := fun q => (nomatch q) }
  · rw [if_neg ho] at h1; exact .of h1 rfl rfl
theorem eval_var (i : Nat) : EvalP prog w h₀ GL F B (.var i) := by
  intro A cx asg env s Na No pe b e r Q E R X hc hd hQ; simp only [denE] at hd; unfold chkE at hc; split at hc
  · rename_i x pos; simp only [Bool.and_eq_true] at hc; have hi := eq_of_beq hc.1.1; obtain ⟨v, hb, hs⟩ := X.vars x i r hi hd; refine hb.name X.kind hc.1.2 (hQ _ _ (Ext.refl _ _) (hs.out hc.2 fun ht a hv ho hna => ?_)); subst hv; exact X.disj a (X.turns x i a hi ho (by rw [hd]; rfl) hb) hna
  · cases hc
end
end Mine
end
section
open PySem PySem.W PyProof.Rows
namespace Mine
section
variable {prog : Program} {w : World} {h₀ : Heap} {GL : List (Str × G)} {F : Nat -> List PV -> Option PV} {fa : Nat -> Addr} {B : Nat}
variable {A : Around} {cx : Cx} {asg : List Str} {env : Env} {s : Shared} {Na No : Addr -> Prop} {pe : PEnv} {E : Value -> Shared -> Prop}
theorem EnvR.low (X : EnvR prog w h₀ cx asg env s Na No pe) : Low (fun b => Na b \/ No b) s.heap := X.base.low
theorem EnvR.ns0 (GK : Glo prog w h₀ GL fa) (X : EnvR prog w h₀ cx asg env s Na No pe) : NoShare s.heap := GK.noshare.keeps X.base.keep
theorem two {p q : PE} {x y : PV} {e f : PySem.Expr} {b c : Bool} {Q : Value -> Value -> Shared -> Prop} (hp : EvalP prog w h₀ GL F B p) (hq : EvalP prog w h₀ GL F B q) (R : Room A (max (nd p) (nd q) + B)) (X : EnvR prog w h₀ cx asg env s Na No pe)
    (h1 : chkE GL cx b e p = true) (h2 : chkE GL cx c f q = true) (d1 : denE F p pe = some x) (d2 : denE F q pe = some y)
    (h : ∀ v u s', Pure s s' -> RT prog w s'.heap (fun b => Na b \/ No b) v x -> RT prog w s'.heap (fun b => Na b \/ No b) u y -> EnvR prog w h₀ cx asg env s' Na No pe -> Q v u s') :
    wpAny (model prog w) A (eval e env) (fun v s₁ => wpAny (model prog w) A (eval f env) (fun u s₂ => Q v u s₂) E s₁) E s := by
  refine hp (R.le (by omega)) X h1 d1 fun v s₁ P₁ o₁ => ?_; have X₁ := X.pure P₁; refine hq (R.le (by omega)) X₁ h2 d2 fun u s₂ P₂ o₂ => ?_; exact h v u s₂ (P₁.trans P₂) (o₁.t.pure P₂) o₂.t (X₁.pure P₂)
theorem eval_bin {op : Operator} {p q : PE} (hp : EvalP prog w h₀ GL F B p) (hq : EvalP prog w h₀ GL F B q) : EvalP prog w h₀ GL F B (.bin op p q) := by
  intro A cx asg env s Na No pe b e r Q E R X hc hd hQ; unfold chkE at hc; split at hc
  · simp only [Bool.and_eq_true] at hc; obtain ⟨⟨ho, h1⟩, h2⟩ := hc; obtain rfl := eq_of_beq ho; simp only [denE] at hd; split at hd
    · rename_i x y d1 d2; refine wpAny_BinOp (two hp hq R X h1 h2 d1 d2 fun v u s' P rv ru X' => ?_); refine bin_sound R X'.base.toks X'.low rv ru hd fun z s₂ P₂ hz => hQ _ _ (P.trans P₂) (.res P hz rfl)
    · cases hd
  · cases hc
theorem behind_set {op : CmpOp} {e : PySem.Expr} {p : PE} {b : Bool} (h : chkE GL cx b e p = true) : behindInMarks op e = false := by
  cases e with
  | Set elts k pos => exfalso; cases p <;> simp [chkE, globB] at h
  | _ => rfl
theorem eval_cmp {op : CmpOp} {p q : PE} (hB : 3 <= B) (GK : Glo prog w h₀ GL fa) (hp : EvalP prog w h₀ GL F B p) (hq : EvalP prog w h₀ GL F B q) : EvalP prog w h₀ GL F B (.cmp op p q) := by
  intro A cx asg env s Na No pe b e r Q E R X hc hd hQ; unfold chkE at hc; split at hc
  · simp only [Bool.and_eq_true] at hc; obtain ⟨⟨ho, h1⟩, h2⟩ := hc; obtain rfl := eq_of_beq ho; simp only [denE] at hd; split at hd
    · rename_i x y d1 d2; obtain ⟨z, hz, rfl⟩ := Option.map_eq_some_iff.mp hd; refine wpAny_Compare1 (two hp hq R X h1 h2 d1 d2 fun v u s' P rv ru X' => ?_) (behind_set h2); exact cmp_sound (k := 3) (Nat.le_refl _) (R.le (by omega)) (X'.ns0 GK) rv ru hz fun s₂ P₂ => hQ _ _ (P.trans P₂) (.of (.bool _) rfl rfl)
    · cases hd
  · cases hc
theorem eval_neg {p : PE} (hp : EvalP prog w h₀ GL F B p) : EvalP prog w h₀ GL F B (.neg p) := by
  intro A cx asg env s Na No pe b e r Q E R X hc hd hQ; unfold chkE at hc; split at hc
  · simp only [denE] at hd; split at hd
    · rename_i x d1; cases hd; refine wpAny_UnaryOp (hp R X hc d1 fun v s₁ P₁ o₁ => ?_); have := o₁.t; cases this; exact P.neg_int (hQ _ _ (P₁.trans (Pure.toks _)) (.of (.int _ _) rfl rfl))
    · cases hd
  · cases hc
theorem truth_of {p : PE} (hp : EvalP prog w h₀ GL F B p) {b : Bool} {e : PySem.Expr} {r : Bool} {Q : Value -> Bool -> Shared -> Prop} (R : Room A (nd p + B)) (X : EnvR prog w h₀ cx asg env s Na No pe) (hc : chkE GL cx b e p = true) (hd : denE F p pe = some (.bool r))
    (h : ∀ s', Pure s s' -> EnvR prog w h₀ cx asg env s' Na No pe -> Q (.bool r) r s') : wpAny (model prog w) A (eval e env) (fun v s₁ => wpAny (model prog w) A (truthy v) (fun c s₂ => Q v c s₂) E s₁) E s := by
  refine hp R X hc hd fun v s₁ P₁ o₁ => ?_; have := o₁.t; cases this; exact wpAny_truthy_bool (h _ P₁ (X.pure P₁))
theorem eval_not {p : PE} (hp : EvalP prog w h₀ GL F B p) : EvalP prog w h₀ GL F B (.not p) := by
  intro A cx asg env s Na No pe b e r Q E R X hc hd hQ; unfold chkE at hc; split at hc
  · simp only [denE] at hd; split at hd
    · rename_i x d1; cases hd; refine wpAny_UnaryOp (wpAny_mono (truth_of (Q := fun v c s' => v = .bool x /\ c = x /\ Pure s s') hp R X hc d1 fun s' P _ => ⟨rfl, rfl, P⟩) (fun v s₁ h => ?_) fun _ _ e => e); exact not_of (wpAny_mono h (fun c s₂ h => by obtain ⟨rfl, rfl, P⟩ := h; exact hQ _ _ P (.of (.bool _) rfl rfl)) fun _ _ e => e)
    · cases hd
  · cases hc
theorem eval_and {p q : PE} (hp : EvalP prog w h₀ GL F B p) (hq : EvalP prog w h₀ GL F B q) : EvalP prog w h₀ GL F B (.and p q) := by
  intro A cx asg env s Na No pe b e r Q E R X hc hd hQ; unfold chkE at hc; split at hc
  · simp only [Bool.and_eq_true] at hc; simp only [denE] at hd; split at hd
    · rename_i d1; split at hd
      · rename_i x d2; cases hd; refine BoolOp_and (truth_of hp (R.le (by simp only [nd]; omega)) X hc.1 d1 fun s' P X' => ?_); simp only [if_true]; refine BoolOp_one (hq (R.le (by simp only [nd]; omega)) X' hc.2 d2 fun v s₂ P₂ o₂ => ?_); have := o₂.t; cases this; exact hQ _ _ (P.trans P₂) (.of (.bool _) rfl rfl)
      · cases hd
    · rename_i d1; cases hd; refine BoolOp_and (truth_of hp (R.le (by simp only [nd]; omega)) X hc.1 d1 fun s' P X' => ?_); simp only [Bool.false_eq_true, if_false]; exact hQ _ _ P (.of (.bool _) rfl rfl)
    · cases hd
  · cases hc
theorem eval_or {p q : PE} (hp : EvalP prog w h₀ GL F B p) (hq : EvalP prog w h₀ GL F B q) : EvalP prog w h₀ GL F B (.or p q) := by
  intro A cx asg env s Na No pe b e r Q E R X hc hd hQ; unfold chkE at hc; split at hc
  · simp only [Bool.and_eq_true] at hc; simp only [denE] at hd; split at hd
    · rename_i d1; split at hd
      · rename_i x d2; cases hd; refine BoolOp_or (truth_of hp (R.le (by simp only [nd]; omega)) X hc.1 d1 fun s' P X' => ?_); simp only [Bool.false_eq_true, if_false]; refine BoolOp_one (hq (R.le (by simp only [nd]; omega)) X' hc.2 d2 fun v s₂ P₂ o₂ => ?_); have := o₂.t; cases this; exact hQ _ _ (P.trans P₂) (.of (.bool _) rfl rfl)
      · cases hd
    · rename_i d1; cases hd; refine BoolOp_or (truth_of hp (R.le (by simp only [nd]; omega)) X hc.1 d1 fun s' P X' => ?_); simp only [if_true]; exact hQ _ _ P (.of (.bool _) rfl rfl)
    · cases hd
  · cases hc
theorem eval_ite {t p q : PE} (ht : TrueP prog w h₀ GL F B t) (hp : EvalP prog w h₀ GL F B p) (hq : EvalP prog w h₀ GL F B q) : EvalP prog w h₀ GL F B (.ite t p q) := by
  intro A cx asg env s Na No pe b e r Q E R X hc hd hQ; have R1 : Room A (nd t + B) := R.le (by simp only [nd]; omega); have R2 : Room A (nd p + B) := R.le (by simp only [nd]; omega); have R3 : Room A (nd q + B) := R.le (by simp only [nd]; omega); unfold chkE at hc; split at hc
  · simp only [Bool.and_eq_true] at hc; have out : ∀ {u : PE} {s' s₂ : Shared} {v : Value}, Pure s s' -> Out prog w cx.top s' s₂ Na No b u v r -> Out prog w cx.top s s₂ Na No b (.ite t p q) v r :=
      fun P o => { t := o.t, a := o.a, f := o.f, fresh := fun q => (nomatch q), tok := fun q => (nomatch q) }
    simp only [denE] at hd; split at hd
    · rename_i d1; refine IfExp_ (ht R1 X hc.1.1 d1 fun s' P => ?_); simp only [if_true]; exact hp R2 (X.pure P) hc.1.2 hd fun v s₂ P₂ o₂ => hQ _ _ (P.trans P₂) (out P o₂)
    · rename_i d1; refine IfExp_ (ht R1 X hc.1.1 d1 fun s' P => ?_); simp only [Bool.false_eq_true, if_false]; exact hq R3 (X.pure P) hc.2 hd fun v s₂ P₂ o₂ => hQ _ _ (P.trans P₂) (out P o₂)
    · cases hd
  · cases hc
end
end Mine
end
section
open PySem PySem.W PyProof.Rows
namespace Mine
section
variable {prog : Program} {w : World} {h₀ : Heap} {GL : List (Str × G)} {F : Nat -> List PV -> Option PV} {fa : Nat -> Addr} {B : Nat}
variable {A : Around} {cx : Cx} {asg : List Str} {env : Env} {s : Shared} {Na No : Addr -> Prop} {pe : PEnv} {E : Value -> Shared -> Prop}
theorem sub_tail {value slice : PySem.Expr} {o i : Value} {T id : String} {Q : Value -> Shared -> Prop} (hT : s.TypeIs o T)
    (hl : typeLookup (.type T) "__getitem__" = pure (some (.builtin id))) (h : wpAny (model prog w) A (getItem o i) Q E s) :
    wpAny (model prog w) A (subscriptTail value slice o i) Q E s := by
  unfold subscriptTail; refine wpAny_bind ?_; rw [getitemInPython_of_ne hT.not_modules]; refine wpAny_bind (wpAny_specialOf hT hl ?_); have fin : wpAny (model prog w) A (subscripted slice false o i) (fun r s₃ => wpAny (model prog w) A (letTemporaryGo value o r >>= fun _ => pure r) Q E s₃) E s := by
    have h2 : wpAny (model prog w) A (getItem o i) (fun r s₃ => wpAny (model prog w) A (letTemporaryGo value o r >>= fun _ => pure r) Q E s₃) E s :=
      wpAny_mono h (fun r s₃ h₃ => wpAny_bind (wpAny_letTemporaryGo (wpAny_pure h₃))) fun _ _ x => x
    unfold subscripted; split
    · exact wpAny_operate' h2
    · rename_i q; cases q
    · exact wpAny_operate' h2
  first
    | exact wpAny_pure (wpAny_bind fin)
    | exact wpAny_bind (wpAny_pure (wpAny_bind fin))
    | exact wpAny_bind fin
theorem rt_getitem {N : Addr -> Prop} {v : Value} {p : PV} (r : RT prog w s.heap N v p) (h : (∃ l, p = .lst l) \/ (∃ l, p = .tup l) \/ (∃ x, p = .str x) \/ (∃ l, p = .dcti l) \/ (∃ l, p = .dcts l)) :
    ∃ T id, s.TypeIs v T /\ typeLookup (.type T) "__getitem__" = pure (some (.builtin id)) := by
  cases r with
  | lst a _ => exact ⟨"list", _, a.isList.typeIs, F.slot_list_getitem.lookup⟩
  | tup a _ => exact ⟨"tuple", _, a.isTuple.typeIs, F.slot_tuple_getitem.lookup⟩
  | str x t => exact ⟨"str", _, rfl, F.slot_str_getitem.lookup⟩
  | dcti a => obtain ⟨_, _, hd, _⟩ := a; exact ⟨"dict", _, hd.typeIs, F.slot_dict_getitem.lookup⟩
  | dcts a => obtain ⟨_, _, hd, _⟩ := a; exact ⟨"dict", _, hd.typeIs, F.slot_dict_getitem.lookup⟩
  | _ => exfalso; rcases h with ⟨_, e⟩ | ⟨_, e⟩ | ⟨_, e⟩ | ⟨_, e⟩ | ⟨_, e⟩ <;> cases e
theorem getF_kind {p q r : PV} (h : getF p q = some r) : (∃ l, p = .lst l) \/ (∃ l, p = .tup l) \/ (∃ x, p = .str x) \/ (∃ l, p = .dcti l) \/ (∃ l, p = .dcts l) := by
  unfold getF at h; split at h <;> simp_all
theorem sliceF_kind {p r : PV} {a b c : Option Int} (h : sliceF p a b c = some r) : (∃ l, p = .lst l) \/ (∃ l, p = .tup l) \/ (∃ x, p = .str x) \/ (∃ l, p = .dcti l) \/ (∃ l, p = .dcts l) := by
  unfold sliceF at h; split at h <;> simp_all
theorem eval_sub {p q : PE} (hp : EvalP prog w h₀ GL F B p) (hq : EvalP prog w h₀ GL F B q) : EvalP prog w h₀ GL F B (.sub p q) := by
  intro A cx asg env s Na No pe b e r Q E R X hc hd hQ; unfold chkE at hc; split at hc
  · simp only [Bool.and_eq_true] at hc; simp only [denE] at hd; split at hd
    · rename_i x y d1 d2; refine Subscript_ (two hp hq R X hc.1 hc.2 d1 d2 fun v u s' P rv ru X' => ?_); obtain ⟨T, id, hT, hl⟩ := rt_getitem rv (getF_kind hd); refine sub_tail hT hl (get_sound R rv ru hd X'.base.toks fun z s₂ P₂ hz ht => hQ _ _ (P.trans P₂) ?_); refine { t := hz.rt, a := fun _ => hz.weak fun _ q => .inl q, f := fun _ => hz, fresh := fun q => (nomatch q), tok := fun hk => ?_ }; refine ht ?_; cases p <;> simp [tokP] at hk; rename_i c; cases c <;> simp [tokP] at hk; simp only [denE, Option.some.injEq] at d1; exact ⟨_, d1.symm⟩
    · cases hd
  · cases hc
theorem partF_R {v : Value} {p : PV} {o : Option Int} {N : Addr -> Prop} {h : Heap} (r : RT prog w h N v p) (e : partF p = some o) : PartR v o := by
  cases r <;> simp [partF] at e <;> subst e
  · exact .none
  · exact .int _ _
theorem eval_part {p : PE} {x : Option PySem.Expr} {r : PV} {o : Option Int} {Q : Value -> Shared -> Prop} (hp : EvalP prog w h₀ GL F B p) (R : Room A (nd p + B)) (X : EnvR prog w h₀ cx asg env s Na No pe)
    (hc : (match x with | none => isNoneC p | some e => chkE GL cx true e p) = true) (hd : denE F p pe = some r) (ho : partF r = some o)
    (h : ∀ v s', Pure s s' -> PartR v o -> EnvR prog w h₀ cx asg env s' Na No pe -> Q v s') : wpAny (model prog w) A (evalPart x env) Q E s := by
  cases x with
  | none =>
    have : p = .cst .none := by
      cases p <;> simp [isNoneC] at hc; rename_i c; cases c <;> simp [isNoneC] at hc; rfl
    subst this; simp only [denE, Option.some.injEq] at hd; subst hd; simp only [partF, Option.some.injEq] at ho; subst ho; exact wpAny_evalPart_none (h _ _ (Ext.refl _ _) .none X)
  | some e =>
    exact wpAny_evalPart_some (hp R X hc hd fun v s' P o => h _ _ P (partF_R o.t ho) (X.pure P))
theorem eval_slc {p a b c : PE} (hp : EvalP prog w h₀ GL F B p) (ha : EvalP prog w h₀ GL F B a) (hb : EvalP prog w h₀ GL F B b) (hc' : EvalP prog w h₀ GL F B c) : EvalP prog w h₀ GL F B (.slc p a b c) := by
  intro A cx asg env s Na No pe bb e r Q E R X hc hd hQ; have R1 : Room A (nd p + B) := R.le (by simp only [nd]; omega); have R2 : Room A (nd a + B) := R.le (by simp only [nd]; omega); have R3 : Room A (nd b + B) := R.le (by simp only [nd]; omega); have R4 : Room A (nd c + B) := R.le (by simp only [nd]; omega); unfold chkE at hc; split at hc
  · simp only [Bool.and_eq_true] at hc; simp only [denE] at hd; split at hd
    · rename_i x l h st d1 d2 d3 d4; split at hd
      · rename_i lo hi st' e1 e2 e3; refine Subscript_ (hp R1 X hc.1.1.1 d1 fun v s₁ P₁ o₁ => wpAny_Slice ?_); have X₁ := X.pure P₁; refine eval_part ha R2 X₁ hc.1.1.2 d2 e1 fun vl s₂ P₂ pl X₂ => ?_; refine eval_part hb R3 X₂ hc.1.2 d3 e2 fun vu s₃ P₃ pu X₃ => ?_; refine eval_part hc' R4 X₃ hc.2 d4 e3 fun vs s₄ P₄ ps X₄ => ?_; have P₅ : Pure s₄ { s₄ with heap := s₄.heap.push { cls := .type "slice", data := .fields #[vl, vu, vs] } } := Pure.push s₄ _ (Nat.le_refl _); have X₅ := X₄.pure P₅; have t₅ := ((((o₁.t.pure P₂).pure P₃).pure P₄).pure P₅); obtain ⟨T, id, hT, hl⟩ := rt_getitem t₅ (sliceF_kind hd); have P14 := (((P₁.trans P₂).trans P₃).trans P₄).trans P₅; refine sub_tail hT hl (slice_sound X₅.base.toks X₅.low t₅ pl pu ps (Heap.get?_push_size _ rfl) hd fun z s₆ P₆ hz => hQ _ _ (P14.trans P₆) (.res P14 hz rfl))
      · cases hd
    · cases hd
  · cases hc
theorem eval_cmp2 {op op' : CmpOp} {p q c : PE} (hB : 3 <= B) (GK : Glo prog w h₀ GL fa) (hp : EvalP prog w h₀ GL F B p) (hq : EvalP prog w h₀ GL F B q) (hr : EvalP prog w h₀ GL F B c) : EvalP prog w h₀ GL F B (.cmp2 op op' p q c) := by
  intro A cx asg env s Na No pe b e r Q E R X hc hd hQ; have R1 : Room A (nd p + B) := R.le (by simp only [nd]; omega); have R2 : Room A (nd q + B) := R.le (by simp only [nd]; omega); have R3 : Room A (nd c + B) := R.le (by simp only [nd]; omega); unfold chkE at hc; split at hc
  · simp only [Bool.and_eq_true] at hc; obtain ⟨⟨⟨⟨ho, ho'⟩, h1⟩, h2⟩, h3⟩ := hc; obtain rfl := eq_of_beq ho; obtain rfl := eq_of_beq ho'; simp only [denE] at hd; split at hd
    · rename_i x y d1 d2; refine Compare_chain (hp R1 X h1 d1 fun v s₁ P₁ o₁ => chain_link ?_) (by simp only [lastMarks]; exact behind_set h3); have X₁ := X.pure P₁; refine hq R2 X₁ h2 d2 fun u s₂ P₂ o₂ => ?_; have X₂ := X₁.pure P₂; split at hd
      · rename_i hz; refine cmp_sound (k := 3) (Nat.le_refl _) (R.le (by omega)) (X₂.ns0 GK) (o₁.t.pure P₂) o₂.t hz fun s₃ P₃ => wpAny_truthy_bool ?_; simp only [if_true]; split at hd
        · rename_i z d3; obtain ⟨t, hz', rfl⟩ := Option.map_eq_some_iff.mp hd; have X₃ := X₂.pure P₃; refine chain_last (hr R3 X₃ h3 d3 fun m s₄ P₄ o₄ => ?_); have X₄ := X₃.pure P₄; exact cmp_sound (k := 3) (Nat.le_refl _) (R.le (by omega)) (X₄.ns0 GK) ((o₂.t.pure P₃).pure P₄) o₄.t hz' fun s₅ P₅ => hQ _ _ ((((P₁.trans P₂).trans P₃).trans P₄).trans P₅) (.of (.bool _) rfl rfl)
        · cases hd
      · rename_i hz; cases hd; refine cmp_sound (k := 3) (Nat.le_refl _) (R.le (by omega)) (X₂.ns0 GK) (o₁.t.pure P₂) o₂.t hz fun s₃ P₃ => wpAny_truthy_bool ?_; simp only [Bool.false_eq_true, if_false]; exact hQ _ _ ((P₁.trans P₂).trans P₃) (.of (.bool _) rfl rfl)
      · cases hd
    · cases hd
  · cases hc
end
end Mine
end
section
open PySem PySem.W PyProof.Rows
namespace Mine
section
variable (prog : Program) (w : World) (h₀ : Heap) (GL : List (Str × G)) (F : Nat -> List PV -> Option PV) (fa : Nat -> Addr) (B : Nat)
def AllE : PEs -> Prop
  | .nil => True
  | .cons p ps => (EvalP prog w h₀ GL F B p /\ TrueP prog w h₀ GL F B p) /\ AllE ps
end
section
variable {prog : Program} {w : World} {h₀ : Heap} {GL : List (Str × G)} {F : Nat -> List PV -> Option PV} {fa : Nat -> Addr} {B : Nat}
variable {A : Around} {cx : Cx} {asg : List Str} {env : Env} {s : Shared} {Na No : Addr -> Prop} {pe : PEnv} {E : Value -> Shared -> Prop}
theorem starEach_cons {e : PySem.Expr} {rest : List PySem.Expr} (h : notStar e = true) : starEach (e :: rest) env = (false, eval e env) :: starEach rest env := by
  cases e <;> first | rfl | cases h
theorem RTs.pure {s s' : Shared} {N : Addr -> Prop} {vs : List Value} {ps : List PV} (r : RTs prog w s.heap N vs ps) (x : Pure s s') : RTs prog w s'.heap N vs ps := by
  induction ps generalizing vs with
  | nil => cases r; exact .nil
  | cons p ps ih => cases r with | cons a b => exact .cons (a.pure x) (ih b)
theorem evals_sound : ∀ {ps : PEs}, AllE prog w h₀ GL F B ps -> EvalsP prog w h₀ GL F B ps
  | .nil, _ => by
    intro R X hc hd hQ; simp only [denEs, Option.some.injEq] at hd; subst hd; unfold chkEs at hc; have hc := List.isEmpty_iff.mp hc; subst hc; exact Calls.spliced_nil (hQ _ _ (Ext.refl _ _) .nil (fun _ => .nil) (fun _ => .nil) rfl)
  | .cons p ps, H => by
    intro R X hc hd hQ; simp only [denEs] at hd; split at hd
    · rename_i x l d1 d2; cases hd; unfold chkEs at hc; split at hc
      · rename_i e es; simp only [Bool.and_eq_true] at hc; simp only [starEach_cons hc.1.1, backTo, List.map_cons]; refine Calls.spliced_cons (H.1.1 (R.le (by simp only [nds]; omega)) X hc.1.2 d1 fun v s₁ P₁ o₁ => ?_); refine evals_sound H.2 (R.le (by simp only [nds]; omega)) (X.pure P₁) hc.2 d2 fun vs s₂ P₂ r₂ a₂ f₂ hl => ?_; exact hQ _ _ (P₁.trans P₂) (.cons (o₁.t.pure P₂) r₂) (fun ht => .cons ((o₁.a ht).step (P₂.stepAt _)) (a₂ ht)) (fun hb => .cons ((o₁.f hb).step (P₂.stepAt _)) (f₂ hb)) (by simp [hl])
      · cases hc
    · cases hd
theorem plain_args {pos : Pos} : ∀ {ps : PEs} {cx : Cx} {b : Bool} {es : List PySem.Expr}, chkEs GL cx b es ps = true -> (backTo pos (starEach es env)).any (·.1) = false
  | .nil, cx, b, es, h => by
    unfold chkEs at h; obtain rfl : es = [] := by simpa using h
    rfl
  | .cons p ps, cx, b, es, h => by
    unfold chkEs at h; split at h
    · rename_i e es; simp only [Bool.and_eq_true] at h; have hb : backTo pos (starEach (e :: es) env) = (false, eval e env) :: backTo pos (starEach es env) := by rw [starEach_cons h.1.1]; rfl
      rw [hb]
      simpa using plain_args (pos := pos) h.2
    · cases h
theorem args_of {pos : Pos} {f : Value} {ps : PEs} {b : Bool} {es : List PySem.Expr} {Q : Args -> Shared -> Prop} (hc : chkEs GL cx b es ps = true) (hne : 0 < es.length) (h : wpAny (model prog w) A (spliced (backTo pos (starEach es env))) (fun vs s' => Q ⟨vs, []⟩ s') E s) :
    wpAny (model prog w) A (evalArgs f true (backTo pos (starEach es env)) []) Q E s := by
  cases ps with
  | nil =>
    unfold chkEs at hc; obtain rfl : es = [] := by simpa using hc
    exact absurd hne (by simp)
  | cons p ps =>
    unfold chkEs at hc; split at hc
    · rename_i e es; simp only [Bool.and_eq_true] at hc; have hb : backTo pos (starEach (e :: es) env) = (false, eval e env) :: backTo pos (starEach es env) := by rw [starEach_cons hc.1.1]; rfl
      rw [hb] at h ⊢; exact Calls.evalArgs_plain h
    · cases hc
theorem eval_list {ps : PEs} (H : AllE prog w h₀ GL F B ps) : EvalP prog w h₀ GL F B (.list ps) := by
  intro A cx asg env s Na No pe b e r Q E R X hc hd hQ; unfold chkE at hc; split at hc
  · simp only [Bool.and_eq_true, decide_eq_true_eq] at hc; simp only [denE] at hd; obtain ⟨l, d1, rfl⟩ := Option.map_eq_some_iff.mp hd; refine wpAny_List (evals_sound H R X hc.1 d1 fun vs s₁ P₁ r₁ a₁ f₁ hl => ⟨by unfold sizeLine; omega, ?_⟩); exact newList_res (X.pure P₁).low (f₁ rfl) (Nat.le_refl _) fun v s' P hr => hQ _ _ (P₁.trans P) (.res P₁ hr rfl)
  · cases hc
theorem eval_tup {ps : PEs} (H : AllE prog w h₀ GL F B ps) : EvalP prog w h₀ GL F B (.tup ps) := by
  intro A cx asg env s Na No pe b e r Q E R X hc hd hQ; unfold chkE at hc; split at hc
  · simp only [Bool.and_eq_true, decide_eq_true_eq] at hc; simp only [denE] at hd; obtain ⟨l, d1, rfl⟩ := Option.map_eq_some_iff.mp hd; refine wpAny_Tuple (evals_sound H R X hc.1 d1 fun vs s₁ P₁ r₁ a₁ f₁ hl => ⟨by unfold sizeLine; omega, ?_⟩); exact newTup_res (X.pure P₁).low (f₁ rfl) (Nat.le_refl _) fun v s' P hr => hQ _ _ (P₁.trans P) (.res P₁ hr rfl)
  · cases hc
theorem eval_call (GK : Glo prog w h₀ GL fa) (FK : FunOK prog w h₀ F fa B) {f : Nat} {ps : PEs} (H : AllE prog w h₀ GL F B ps) : EvalP prog w h₀ GL F B (.call f ps) := by
  intro A cx asg env s Na No pe b e r Q E R X hc hd hQ; unfold chkE at hc; split at hc
  · simp only [Bool.and_eq_true, decide_eq_true_eq] at hc; obtain ⟨⟨h1, h2⟩, hne, _⟩ := hc; simp only [denE] at hd; split at hd
    · rename_i l d1; obtain ⟨x, pos, g, rfl, k1, k2, k3, k4⟩ := globB_inv h1; refine wpAny_Call_NameR (glob_sound GK X k1 k2 k3 fun v hv => ?_); cases g <;> simp [isFn] at k4; subst k4; obtain ⟨rfl, o, fd, hg, hfd⟩ := hv; refine Calls.callWith_function (o := o) (fd := fd) (args_of h2 hne (evals_sound H (R.le (by simp only [nd]; omega)) X h2 d1 fun vs s₁ P₁ r₁ a₁ f₁ hl => ⟨⟨P₁.keep _ _ (X.base.keep _ _ hg), hfd⟩, ?_⟩)); have X₁ := X.pure P₁; exact FK f A s₁ (fun b => Na b \/ No b) vs l r Q E (R.le (by omega)) X₁.base (f₁ rfl) hd fun v s₂ P₂ hv => hQ _ _ (P₁.trans P₂) (.of hv rfl rfl)
    · cases hd
  · cases hc
theorem Base.weak {N N' : Addr -> Prop} (b : Base h₀ s N) (h : ∀ x, N' x -> N x) : Base h₀ s N' := ⟨b.keep, fun x q => b.above x (h x q), b.size, fun x q => b.low x (h x q), b.toks, b.bare⟩
theorem eval_callB (GK : Glo prog w h₀ GL fa) (FK : FunOK prog w h₀ F fa B) {f : Nat} {ps : PEs} (H : AllE prog w h₀ GL F B ps) : EvalP prog w h₀ GL F B (.callB f ps) := by
  intro A cx asg env s Na No pe b e r Q E R X hc hd hQ; unfold chkE at hc; split at hc
  · simp only [Bool.and_eq_true, decide_eq_true_eq] at hc; obtain ⟨⟨⟨h0, h1⟩, h2⟩, hne, _⟩ := hc; simp only [denE] at hd; split at hd
    · rename_i l d1; split at hd
      · rename_i r' d2; split at hd <;> cases hd; rename_i hsc; obtain ⟨x, pos, g, rfl, k1, k2, k3, k4⟩ := globB_inv h1; refine wpAny_Call_NameR (glob_sound GK X k1 k2 k3 fun v hv => ?_); cases g <;> simp [isFn] at k4; subst k4; obtain ⟨rfl, o, fd, hg, hfd⟩ := hv; refine Calls.callWith_function (o := o) (fd := fd) (args_of h2 hne (evals_sound H (R.le (by simp only [nd]; omega)) X h2 d1 fun vs s₁ P₁ r₁ a₁ f₁ hl => ⟨⟨P₁.keep _ _ (X.base.keep _ _ hg), hfd⟩, ?_⟩)); have X₁ := X.pure P₁; exact FK f A s₁ Na vs l r Q E (R.le (by omega)) (X₁.base.weak fun _ q => .inl q) (a₁ h0) d2 fun v s₂ P₂ hv => hQ _ _ (P₁.trans P₂) (.of (hv.of_scalar hsc) rfl rfl)
      · cases hd
    · cases hd
  · cases hc
theorem eval_bi (GK : Glo prog w h₀ GL fa) (hB : 3 <= B) {f : Bi} {ps : PEs} (H : AllE prog w h₀ GL F B ps) : EvalP prog w h₀ GL F B (.bi f ps) := by
  intro A cx asg env s Na No pe b e r Q E R X hc hd hQ; unfold chkE at hc; split at hc
  · simp only [Bool.and_eq_true, decide_eq_true_eq] at hc; obtain ⟨⟨h1, h2⟩, hne, _⟩ := hc; simp only [denE] at hd; split at hd
    · rename_i l d1; obtain ⟨x, pos, g, rfl, k1, k2, k3, k4⟩ := globB_inv h1; refine wpAny_Call_NameR (glob_sound GK X k1 k2 k3 fun v hv => ?_); cases g <;> simp [ofBi] at k4; subst k4; subst hv; have key : ∀ posc : Pos, wpAny (model prog w) A (evalArgs (biV f) true (backTo posc (starEach _ env)) []) (fun a s₁ => wpAny (model prog w) A (call (biV f) ([] ++ a.pos) a.kw) Q E s₁) E s := fun posc =>
        args_of h2 hne (evals_sound H (R.le (by simp only [nd]; omega)) X h2 d1 fun vs s₁ P₁ r₁ a₁ f₁ hl =>
          bi_sound R (X.pure P₁).base.toks r₁ hd fun v s₂ P₂ hv => hQ _ _ (P₁.trans P₂) (.of hv rfl rfl))
      cases f
      · exact Calls.callWith_builtin (plain_args h2) (key _)
      · exact Calls.callWith_builtin (plain_args h2) (key _)
      · exact Calls.callWith_builtin (plain_args h2) (key _)
      · exact Calls.callWith_builtin (plain_args h2) (key _)
      · exact PyProof.Rows.callWith_type (plain_args h2) (key _)
    · cases hd
  · cases hc
theorem base_of {o : PySem.Expr} {n : Str} {whole : Sem Value} (h : notCall0 o = true) : attributeBase o n env whole = whole := by
  cases o <;> try rfl; rename_i g args kws pos; cases args <;> cases kws
  · cases h
  · cases g <;> rfl
  · cases g <;> rfl
  · cases g <;> rfl
theorem few_of {pos : Pos} {ps : PEs} {b : Bool} {es : List PySem.Expr} (hc : chkEs GL cx b es ps = true) (hl : es.length <= 20) : ((backTo pos (starEach es env)).all (fun x => !x.1) && (backToKw pos (keywordEach [] env)).all (fun x => x.1.isSome) && decide (es.length + ([] : List Keyword).length + (if ([] : List Keyword).isEmpty then 0 else 1) < 30)) = true := by
  have h := plain_args (env := env) (pos := pos) hc; have h1 : (backTo pos (starEach es env)).all (fun x => !x.1) = true := by
    simp only [List.any_eq_false, List.all_eq_true] at h ⊢; intro x hx
    simpa using h x hx
  simp only [h1, Bool.true_and, Bool.and_eq_true, decide_eq_true_eq]; refine ⟨rfl, ?_⟩; simp; omega
theorem me_facts (f : Me) : ∃ (T : String) (n : Str), PlainAttrs T /\ Slot T n f.id /\ typeOf (.builtin f.id) = Pure.pure (.type "method_descriptor") /\
    (n = match f with | .join => "join" | .count => "count" | .index => "index" | .get => "get") /\
    ∀ {prog : Program} {w : World} {s : Shared} {N : Addr -> Prop} {v : Value} {p : PV} {l : List PV} {r : PV}, RT prog w s.heap N v p -> meF f p l = some r -> s.TypeIs v T /\ (∀ a, v = .ref a -> ∃ ob, s.heap.get? a = some ob /\ ob.dict = none) := by
  cases f
  · refine ⟨"str", _, F.plainAttrs_str, F.slot_str_join, F.type_str_join, rfl, fun {prog w s N v p l r} h1 h2 => ?_⟩; cases h1 <;> simp [meF] at h2; exact ⟨rfl, fun a e => (nomatch e)⟩
  · refine ⟨"list", _, F.plainAttrs_list, F.slot_list_count, F.type_list_count, rfl, fun {prog w s N v p l r} h1 h2 => ?_⟩; cases h1 with
    | lst q _ => exact ⟨q.isList.typeIs, fun a e => by cases e; obtain ⟨n, e⟩ := q; exact ⟨_, e, rfl⟩⟩
    | _ => simp [meF] at h2
  · refine ⟨"str", _, F.plainAttrs_str, F.slot_str_index, F.type_str_index, rfl, fun {prog w s N v p l r} h1 h2 => ?_⟩; cases h1 <;> simp [meF] at h2; exact ⟨rfl, fun a e => (nomatch e)⟩
  · refine ⟨"dict", _, F.plainAttrs_dict, F.slot_dict_get, F.type_dict_get, rfl, fun {prog w s N v p l r} h1 h2 => ?_⟩; cases h1 with
    | dcti q => obtain ⟨_, _, hd, _⟩ := q; exact ⟨hd.typeIs, hd.mapOf.noDict⟩
    | _ => simp [meF] at h2
theorem eval_me (GK : Glo prog w h₀ GL fa) (hB : 3 <= B) {f : Me} {o : PE} {ps : PEs} (ho : EvalP prog w h₀ GL F B o) (H : AllE prog w h₀ GL F B ps) : EvalP prog w h₀ GL F B (.me f o ps) := by
  intro A cx asg env s Na No pe b e r Q E R X hc hd hQ; unfold chkE at hc; split at hc
  · rename_i x n apos xs pos; simp only [Bool.and_eq_true, decide_eq_true_eq] at hc; obtain ⟨⟨⟨⟨⟨h0, h1⟩, h2⟩, hne, h3⟩, h4⟩, h5⟩ := hc; simp only [denE] at hd; split at hd
    · rename_i y l d1 d2; obtain ⟨T, n', pa, sl, hty, hn, hk⟩ := me_facts f; have hnn : n = n' := by
        rw [hn]; cases f <;> exact eq_of_beq h0
      subst hnn; refine wpAny_Call_method (base_of h5) (few_of h2 h3) h4 pa sl hty (ho (R.le (by simp only [nd]; omega)) X h1 d1 fun v s₁ P₁ o₁ => ?_); obtain ⟨hT, hdct⟩ := hk (s := s₁) o₁.t hd; refine ⟨hT, hdct, Calls.callWith_builtin (plain_args h2) (args_of h2 hne (evals_sound H (R.le (by simp only [nd]; omega)) (X.pure P₁) h2 d2 fun vs s₂ P₂ r₂ a₂ f₂ hl => ?_))⟩; have X₂ := (X.pure P₁).pure P₂; exact me_sound (k := 1) (Nat.le_refl _) (R.le (by omega)) X₂.base.toks (X₂.ns0 GK) (o₁.t.pure P₂) r₂ hd fun z s₃ P₃ hz => hQ _ _ ((P₁.trans P₂).trans P₃) (.of hz rfl rfl)
    · cases hd
  · cases hc
end
end Mine
end
section
open PySem PySem.W PyProof.Rows
namespace Mine
section
variable {prog : Program} {w : World} {h₀ : Heap} {GL : List (Str × G)} {F : Nat -> List PV -> Option PV} {fa : Nat -> Addr} {B : Nat}
variable {A : Around} {cx : Cx} {asg : List Str} {env : Env} {s : Shared} {Na No : Addr -> Prop} {pe : PEnv} {E : Value -> Shared -> Prop}
theorem eval_repl (GK : Glo prog w h₀ GL fa) {o t : PE} {y z : Str} {i : Nat} (ho : EvalP prog w h₀ GL F B o) (ht : TrueP prog w h₀ GL F B t) : EvalP prog w h₀ GL F B (.repl o y t i z) := by
  intro A cx asg env s Na No pe b e r Q E R X hc hd hQ; have R1 : Room A (nd o + B) := R.le (by simp only [nd]; omega); have R2 : Room A (nd t + B) := R.le (by simp only [nd]; omega); unfold chkE at hc; split at hc
  · rename_i x n apos y' kk1 pp1 c u upos z' kk2 pp2 pp3 pos; simp only [Bool.and_eq_true] at hc; obtain ⟨⟨⟨⟨⟨⟨⟨⟨⟨⟨h1, h2⟩, h3⟩, h4⟩, h5⟩, h6⟩, h7⟩, h8⟩, h9⟩, h10⟩, h11⟩ := hc; obtain rfl := eq_of_beq h1; obtain rfl := eq_of_beq h3; obtain rfl := eq_of_beq h4; have hi := eq_of_beq h6; simp only [denE] at hd; split at hd
    · rename_i xs bb us d1 d2 d3; split at hd <;> cases hd; rename_i hcond; obtain ⟨q1, q2, q3, q4, q5⟩ := hcond; refine wpAny_Call_method (base_of h11) (by rfl) h10 PySem.F.plainAttrs_str PySem.F.slot_str_replace PySem.F.type_str_replace (ho R1 X h2 d1 fun v s₁ P₁ o₁ => ?_); have o1 := o₁.t; cases o1 with
      | str _ xt =>
      refine ⟨rfl, fun a e => (nomatch e), Calls.callWith_builtin (by rfl) ?_⟩; refine Calls.evalArgs_plain (x := eval (.Constant (.str y') kk1 pp1) env) (Calls.spliced_cons (wpAny_mkText ?_)); have X₁ := X.pure P₁; obtain ⟨v, hb, hs⟩ := X₁.vars u i _ hi d3; have P₂ : Pure s₁ { s₁ with toks := s₁.toks + 1 } := Pure.toks _; have X₂ := X₁.pure P₂; have hs1 := hs.1; simp only [Bool.not_eq_true'] at h9; rw [h9] at hs1; simp only [Bool.false_eq_true, if_false] at hs1; cases hs1 with
      | str _ ut =>
      obtain ⟨k1, k2⟩ := hs.2 h8 _ _ rfl; refine Calls.spliced_cons (IfExp_ (pos := pp3) (ht R2 X₂ h5 d2 fun s₃ P₃ => ?_)); have hT : 0 < s₁.toks := X₁.base.toks; have hm : s₁.toks + 1 <= s₃.toks := Ext.toks P₃; have fin : ∀ (zz : Str) (vt : Tok) (s₄ : Shared), Pure s s₄ -> vt ≠ 0 -> vt ≠ s₁.toks -> zz.length <= 10 -> (y' == zz) = false -> zz = (if bb = true then us else z') ->
          wpAny (model prog w) A (call (.builtin "str.replace") [.str xs xt, .str y' s₁.toks, .str zz vt]) Q E s₄ := by
        intro zz vt s₄ P₄ a1 a2 a3 a4 a5; subst a5; refine wpAny_mon (SC.replace (Nat.ne_of_gt hT) a1 (Ne.symm a2) a4 ?_ fun t' k hmono => hQ _ _ (P₄.trans (Pure.toks _ hmono.2)) (.of (.str _ _) rfl rfl)); have : (xs.length + 1) * Str.length (if bb = true then us else z') <= 1001 * 10 := Nat.mul_le_mul (by omega) a3; omega
      cases bb with
      | true =>
        simp only [if_true]; have X₃ := X₂.pure P₃; refine ((hb.keeps P₂.keep).keeps P₃.keep).name X.kind h7 ?_; exact Calls.spliced_nil (fin us ut s₃ ((P₁.trans P₂).trans P₃) k1 (Nat.ne_of_lt k2) q2 q4 rfl)
      | false =>
        simp only [Bool.false_eq_true, if_false]; refine wpAny_mkText ?_; refine Calls.spliced_nil (fin z' s₃.toks _ (((P₁.trans P₂).trans P₃).trans (Pure.toks _)) ?_ ?_ q3 q5 rfl)
        · show s₃.toks ≠ 0; omega
        · show s₃.toks ≠ s₁.toks; omega
    · cases hd
  · cases hc
theorem KVR.keys {K : Type} {kvs : List (K × Value)} {l : List (K × SV)} (r : KVR kvs l) : kvs.map (·.1) = l.map (·.1) := by
  induction r with
  | nil => rfl
  | cons a b ih => simp [ih]
theorem merged_nodup {K : Type} [DecidableEq K] : ∀ (kvs acc : List (K × Value)), ((acc ++ kvs).map (·.1)).Nodup -> merged acc kvs = acc ++ kvs
  | [], acc, _ => by simp [merged]
  | kv :: kvs, acc, h => by
    have e : stored acc kv.1 kv.2 = acc ++ [kv] := by
      unfold stored; rw [if_neg]; intro hx; simp only [List.any_eq_true, decide_eq_true_eq] at hx; obtain ⟨x, hx, e⟩ := hx; simp only [List.map_append, List.map_cons, List.nodup_append] at h; exact h.2.2 x.1 (List.mem_map_of_mem hx) kv.1 (by simp) e
    have := merged_nodup kvs (acc ++ [kv]) (by simpa using h)
    simpa [merged, e] using this
theorem dictF_nodup : ∀ {l : List PV} {d : List (Int × SV)}, dictF l = some d -> (d.map (·.1)).Nodup
  | [], d, h => by simp [dictF] at h; subst h; simp
  | .int k :: .int v :: r, d, h => by
    simp only [dictF] at h; split at h
    · rename_i l e; split at h <;> cases h; rename_i hc; simp only [List.map_cons, List.nodup_cons]; exact ⟨by simpa using hc, dictF_nodup e⟩
    · cases h
  | .int k :: .str v :: r, d, h => by
    simp only [dictF] at h; split at h
    · rename_i l e; split at h <;> cases h; rename_i hc; simp only [List.map_cons, List.nodup_cons]; exact ⟨by simpa using hc, dictF_nodup e⟩
    · cases h
  | .none :: _, d, h | .bool _ :: _, d, h | .flt _ :: _, d, h | .str _ :: _, d, h | .tup _ :: _, d, h | .lst _ :: _, d, h | .dcti _ :: _, d, h | .dcts _ :: _, d, h => by simp [dictF] at h
  | [.int _], d, h => by simp [dictF] at h
  | .int _ :: .none :: _, d, h | .int _ :: .bool _ :: _, d, h | .int _ :: .flt _ :: _, d, h | .int _ :: .tup _ :: _, d, h | .int _ :: .lst _ :: _, d, h | .int _ :: .dcti _ :: _, d, h | .int _ :: .dcts _ :: _, d, h => by simp [dictF] at h
theorem dictF_cons {x y : PV} {l : List PV} {d : List (Int × SV)} (h : dictF (x :: y :: l) = some d) : ∃ k a d', x = .int k /\ y = a.pv /\ dictF l = some d' /\ d = (k, a) :: d' := by
  have hx : ∃ k, x = .int k := by cases x <;> first | exact ⟨_, rfl⟩ | (simp [dictF] at h)
  obtain ⟨k, rfl⟩ := hx; cases y <;> simp [dictF] at h
  · rename_i v; split at h
    · rename_i d' e; split at h <;> cases h; exact ⟨k, .i v, d', rfl, rfl, e, rfl⟩
    · cases h
  · rename_i v; split at h
    · rename_i d' e; split at h <;> cases h; exact ⟨k, .t v, d', rfl, rfl, e, rfl⟩
    · cases h
theorem RT.svr {N : Addr -> Prop} {h : Heap} {v : Value} {a : SV} (r : RT prog w h N v a.pv) : SVR v a := by
  cases a <;> simp only [SV.pv] at r <;> cases r <;> constructor
theorem pairs_sound {pos : Pos} : ∀ {ps : PEs}, AllE prog w h₀ GL F B ps -> ∀ {A : Around} {cx : Cx} {asg : List Str} {env : Env} {Na No : Addr -> Prop} {pe : PEnv} {E : Value -> Shared -> Prop} {ks : List (Option PySem.Expr)} {vs : List PySem.Expr} {l : List PV} {d : List (Int × SV)},
    Room A (nds ps + B) -> chkD GL cx ks vs ps = true -> denEs F ps pe = some l -> dictF l = some d ->
    ∃ pairs : List (Sem Value × Sem Value), (evalEachOpt ks env).zip ((evalEach vs env).map fun v => do let x <- v; standAt pos; Pure.pure x) = pairs.map (fun p => (some p.1, p.2)) /\ pairs.length = vs.length /\
    ∀ {s : Shared} {Q : List (Value × Value) -> Shared -> Prop}, EnvR prog w h₀ cx asg env s Na No pe -> (∀ us kvs s', Pure s s' -> Carries (intKind prog w) us kvs -> KVR kvs d -> Q us s') -> wpAny (model prog w) A (evalPairs pairs) Q E s
  | .nil, _, A, cx, asg, env, Na, No, pe, E, ks, vs, l, d, R, hc, hd, hf => by
    unfold chkD at hc; simp only [Bool.and_eq_true, List.isEmpty_iff] at hc; obtain ⟨rfl, rfl⟩ := hc; simp only [denEs, Option.some.injEq] at hd; subst hd; simp only [dictF, Option.some.injEq] at hf; subst hf; exact ⟨[], rfl, rfl, fun X hQ => evalPairs_nil (hQ _ [] _ (Ext.refl _ _) trivial .nil)⟩
  | .cons p .nil, _, A, cx, asg, env, Na, No, pe, E, ks, vs, l, d, R, hc, hd, hf => by
    unfold chkD at hc; cases hc
  | .cons p (.cons q ps), H, A, cx, asg, env, Na, No, pe, E, ks, vs, l, d, R, hc, hd, hf => by
    unfold chkD at hc; split at hc
    · rename_i k ks v vs; simp only [Bool.and_eq_true] at hc; simp only [denEs] at hd; split at hd
      · rename_i x l' d1 d2; cases hd; split at d2
        · rename_i y l'' d3 d4; cases d2; obtain ⟨k', a, d', rfl, rfl, hf', rfl⟩ := dictF_cons hf; obtain ⟨pairs, e1, e2, hp⟩ := pairs_sound (pos := pos) H.2.2 (A := A) (cx := cx) (asg := asg) (env := env) (Na := Na) (No := No) (pe := pe) (E := E) (R.le (by simp only [nds]; omega)) hc.2 d4 hf'; refine ⟨(eval k env, do let x <- eval v env; standAt pos; Pure.pure x) :: pairs, ?_, by simp [e2], fun X hQ => ?_⟩
          · simp only [evalEachOpt, evalEach, List.map_cons, List.zip_cons_cons, e1]; rfl
          · refine evalPairs_cons (H.1.1 (R.le (by simp only [nds]; omega)) X hc.1.1 d1 fun kv s₁ P₁ o₁ => ?_); refine wpAny_bind (H.2.1.1 (R.le (by simp only [nds]; omega)) (X.pure P₁) hc.1.2 d3 fun vv s₂ P₂ o₂ => wpAny_bind (wpAny_standAt (wpAny_pure ?_))); refine hp ((X.pure P₁).pure P₂) fun us kvs s₃ P₃ hcar hkv => ?_; have ok := o₁.t; cases ok with
            | int _ t =>
            exact hQ _ ((k', vv) :: kvs) _ ((P₁.trans P₂).trans P₃) ⟨intKind_is prog w k' t, rfl, hcar⟩ (.cons (RT.svr o₂.t) hkv)
        · cases d2
      · cases hd
    · cases hc
theorem eval_dict (GK : Glo prog w h₀ GL fa) {ps : PEs} (H : AllE prog w h₀ GL F B ps) : EvalP prog w h₀ GL F B (.dict ps) := by
  intro A cx asg env s Na No pe b e r Q E R X hc hd hQ; unfold chkE at hc; split at hc
  · rename_i ks vs pos; simp only [Bool.and_eq_true, decide_eq_true_eq, Bool.not_eq_true'] at hc; obtain ⟨⟨h1, h2⟩, h3⟩ := hc; simp only [denE] at hd; split at hd
    · rename_i l d1; obtain ⟨d, hd', rfl⟩ := Option.map_eq_some_iff.mp hd; obtain ⟨pairs, e1, e2, hp⟩ := pairs_sound (pos := pos) H (A := A) (cx := cx) (asg := asg) (env := env) (Na := Na) (No := No) (pe := pe) (E := E) (R.le (by simp only [nd]; omega)) h1 d1 hd'; have hne : pairs ≠ [] := by
        rintro rfl
        simp only [List.length_nil] at e2; have : vs = [] := List.length_eq_zero_iff.mp e2.symm; subst this; cases h3
      have P₁ : Pure s { s with heap := s.heap.push { cls := .type "dict", data := .dict #[] } } := Pure.push s _ (Nat.le_refl _); refine wpAny_Dict_pairs (knd := intKind prog w) e1 hne (by omega) (hp (X.pure P₁) fun us kvs s₂ P₂ hcar hkv => ⟨kvs, hcar, ?_, fun h' hd2 hsb => ?_⟩)
      · exact (Heap.DictOf.new s.heap).keep P₂.keep
      · have hm : merged [] kvs = kvs := by simpa using merged_nodup kvs [] (by simpa [hkv.keys] using dictF_nodup hd')
        rw [hm] at hd2; have P₃ : Pure s { s₂ with heap := h', toks := s₂.toks + us.length } := by
          have P12 := P₁.trans P₂; refine ⟨⟨fun b o _ e => hsb.extBut b o (fun q => ?_) (Pure.keep P12 b o e), ?_, fun _ q => q.elim⟩, P12.gens, P12.bare, P12.os, P12.drawn, ?_⟩
          · have := Heap.lt_size e; rw [q] at this; exact Nat.lt_irrefl _ this
          · show s.heap.objs.size <= h'.objs.size; rw [hsb.1]; exact P12.step.grow
          · show s.toks <= s₂.toks + us.length; have := Ext.toks P12; omega
        have hbig : (s.heap.objs.size == sysModules) = false := by
          have := GK.big; have h2 := X.base.size; simp only [beq_eq_false_iff_ne, ne_eq]; exact Nat.ne_of_gt (Nat.lt_of_lt_of_le this h2)
        exact hQ _ _ P₃ (.of (.dcti (fun q => Nat.lt_irrefl _ (X.low _ q)) ⟨hbig, kvs, hd2, hkv⟩) rfl rfl)
    · cases hd
  · cases hc
end
end Mine
end
section
open PySem PySem.W PyProof.Rows
namespace Mine
def plainE : PE -> Bool
  | .not _ | .and _ _ | .or _ _ | .ite .. | .cmp .. | .cmp2 .. => false
  | _ => true
section
variable {prog : Program} {w : World} {h₀ : Heap} {GL : List (Str × G)} {F : Nat -> List PV -> Option PV} {fa : Nat -> Addr} {B : Nat}
variable {A : Around} {cx : Cx} {asg : List Str} {env : Env} {s : Shared} {Na No : Addr -> Prop} {pe : PEnv} {E : Value -> Shared -> Prop}
theorem plain_isTrue {p : PE} {e : PySem.Expr} {b : Bool} {whole : Sem Value} (h : chkE GL cx b e p = true) (hp : plainE p = true) :
    isTrue e env whole = (do let v <- whole; standAt e.pos; holding [v] (truthy v)) := by
  cases e with
  | UnaryOp op x pos => cases op <;> first | rfl | (exfalso; cases p <;> simp [chkE, globB, plainE] at h hp)
  | BoolOp op x pos => exfalso; cases p <;> simp [chkE, globB, plainE] at h hp
  | IfExp op x y pos => exfalso; cases p <;> simp [chkE, globB, plainE] at h hp
  | Compare l o r pos => exfalso; cases p <;> simp [chkE, globB, plainE] at h hp
  | _ => rfl
theorem true_plain {p : PE} (hpl : plainE p = true) (hp : EvalP prog w h₀ GL F B p) : TrueP prog w h₀ GL F B p := by
  intro A cx asg env s Na No pe b e r Q E R X hc hd hQ; refine PyProof.Rows.isTrue_plain (truth_of hp R X hc hd fun s' P _ => hQ s' P) (plain_isTrue hc hpl)
theorem true_not {p : PE} (hp : TrueP prog w h₀ GL F B p) : TrueP prog w h₀ GL F B (.not p) := by
  intro A cx asg env s Na No pe b e r Q E R X hc hd hQ; unfold chkE at hc; split at hc
  · simp only [denE] at hd; split at hd
    · rename_i x d1; cases hd; exact PyProof.Rows.isTrue_not (hp R X hc d1 fun s' P => hQ s' P)
    · cases hd
  · cases hc
theorem true_and {p q : PE} (hp : TrueP prog w h₀ GL F B p) (hq : TrueP prog w h₀ GL F B q) : TrueP prog w h₀ GL F B (.and p q) := by
  intro A cx asg env s Na No pe b e r Q E R X hc hd hQ; unfold chkE at hc; split at hc
  · simp only [Bool.and_eq_true] at hc; simp only [denE] at hd; split at hd
    · rename_i d1; split at hd
      · rename_i x d2; cases hd; refine isTrue_and (hp (R.le (by simp only [nd]; omega)) X hc.1 d1 fun s' P => ?_); simp only [if_true]; refine isTrue_and (hq (R.le (by simp only [nd]; omega)) (X.pure P) hc.2 d2 fun s₂ P₂ => ?_); cases r
        · exact hQ _ (P.trans P₂)
        · exact isTrue_and_nil (hQ _ (P.trans P₂))
      · cases hd
    · rename_i d1; cases hd; refine isTrue_and (hp (R.le (by simp only [nd]; omega)) X hc.1 d1 fun s' P => ?_); simp only [Bool.false_eq_true, if_false]; exact hQ _ P
    · cases hd
  · cases hc
theorem true_or {p q : PE} (hp : TrueP prog w h₀ GL F B p) (hq : TrueP prog w h₀ GL F B q) : TrueP prog w h₀ GL F B (.or p q) := by
  intro A cx asg env s Na No pe b e r Q E R X hc hd hQ; unfold chkE at hc; split at hc
  · simp only [Bool.and_eq_true] at hc; simp only [denE] at hd; split at hd
    · rename_i d1; split at hd
      · rename_i x d2; cases hd; refine isTrue_or (hp (R.le (by simp only [nd]; omega)) X hc.1 d1 fun s' P => ?_); simp only [Bool.false_eq_true, if_false]; refine isTrue_or (hq (R.le (by simp only [nd]; omega)) (X.pure P) hc.2 d2 fun s₂ P₂ => ?_); cases r
        · exact isTrue_or_nil (hQ _ (P.trans P₂))
        · exact hQ _ (P.trans P₂)
      · cases hd
    · rename_i d1; cases hd; refine isTrue_or (hp (R.le (by simp only [nd]; omega)) X hc.1 d1 fun s' P => ?_); simp only [if_true]; exact hQ _ P
    · cases hd
  · cases hc
theorem true_ite {t p q : PE} (ht : TrueP prog w h₀ GL F B t) (hp : TrueP prog w h₀ GL F B p) (hq : TrueP prog w h₀ GL F B q) : TrueP prog w h₀ GL F B (.ite t p q) := by
  intro A cx asg env s Na No pe b e r Q E R X hc hd hQ; have R1 : Room A (nd t + B) := R.le (by simp only [nd]; omega); have R2 : Room A (nd p + B) := R.le (by simp only [nd]; omega); have R3 : Room A (nd q + B) := R.le (by simp only [nd]; omega); unfold chkE at hc; split at hc
  · simp only [Bool.and_eq_true] at hc; simp only [denE] at hd; split at hd
    · rename_i d1; refine isTrue_IfExp (ht R1 X hc.1.1 d1 fun s' P => ?_); simp only [if_true]; exact hp R2 (X.pure P) hc.1.2 hd fun s₂ P₂ => hQ _ (P.trans P₂)
    · rename_i d1; refine isTrue_IfExp (ht R1 X hc.1.1 d1 fun s' P => ?_); simp only [Bool.false_eq_true, if_false]; exact hq R3 (X.pure P) hc.2 hd fun s₂ P₂ => hQ _ (P.trans P₂)
    · cases hd
  · cases hc
theorem true_cmp {op : CmpOp} {p q : PE} (hB : 3 <= B) (GK : Glo prog w h₀ GL fa) (hp : EvalP prog w h₀ GL F B p) (hq : EvalP prog w h₀ GL F B q) : TrueP prog w h₀ GL F B (.cmp op p q) := by
  intro A cx asg env s Na No pe b e r Q E R X hc hd hQ; unfold chkE at hc; split at hc
  · simp only [Bool.and_eq_true] at hc; obtain ⟨⟨ho, h1⟩, h2⟩ := hc; obtain rfl := eq_of_beq ho; simp only [denE] at hd; split at hd
    · rename_i x y d1 d2; obtain ⟨z, hz, e⟩ := Option.map_eq_some_iff.mp hd; cases e; refine wpAny_isTrue_Compare1 (two hp hq R X h1 h2 d1 d2 fun v u s' P rv ru X' => ?_) (behind_set h2); exact cmp_sound (k := 3) (Nat.le_refl _) (R.le (by omega)) (X'.ns0 GK) rv ru hz fun s₂ P₂ => wpAny_truthy_bool (hQ _ (P.trans P₂))
    · cases hd
  · cases hc
theorem true_cmp2 {op op' : CmpOp} {p q c : PE} (hB : 3 <= B) (GK : Glo prog w h₀ GL fa) (hp : EvalP prog w h₀ GL F B p) (hq : EvalP prog w h₀ GL F B q) (hr : EvalP prog w h₀ GL F B c) : TrueP prog w h₀ GL F B (.cmp2 op op' p q c) := by
  intro A cx asg env s Na No pe b e r Q E R X hc hd hQ; have R1 : Room A (nd p + B) := R.le (by simp only [nd]; omega); have R2 : Room A (nd q + B) := R.le (by simp only [nd]; omega); have R3 : Room A (nd c + B) := R.le (by simp only [nd]; omega); unfold chkE at hc; split at hc
  · simp only [Bool.and_eq_true] at hc; obtain ⟨⟨⟨⟨ho, ho'⟩, h1⟩, h2⟩, h3⟩ := hc; obtain rfl := eq_of_beq ho; obtain rfl := eq_of_beq ho'; simp only [denE] at hd; split at hd
    · rename_i x y d1 d2; refine isTrue_chain (hp R1 X h1 d1 fun v s₁ P₁ o₁ => test_link ?_) (by simp only [lastMarks]; exact behind_set h3); have X₁ := X.pure P₁; refine hq R2 X₁ h2 d2 fun u s₂ P₂ o₂ => ?_; have X₂ := X₁.pure P₂; split at hd
      · rename_i hz; refine cmp_sound (k := 3) (Nat.le_refl _) (R.le (by omega)) (X₂.ns0 GK) (o₁.t.pure P₂) o₂.t hz fun s₃ P₃ => wpAny_truthy_bool ?_; simp only [if_true]; split at hd
        · rename_i z d3; obtain ⟨t, hz', e⟩ := Option.map_eq_some_iff.mp hd; cases e; have X₃ := X₂.pure P₃; refine test_last (hr R3 X₃ h3 d3 fun m s₄ P₄ o₄ => ?_); have X₄ := X₃.pure P₄; exact cmp_sound (k := 3) (Nat.le_refl _) (R.le (by omega)) (X₄.ns0 GK) ((o₂.t.pure P₃).pure P₄) o₄.t hz' fun s₅ P₅ => wpAny_truthy_bool (hQ _ ((((P₁.trans P₂).trans P₃).trans P₄).trans P₅))
        · cases hd
      · rename_i hz; cases hd; refine cmp_sound (k := 3) (Nat.le_refl _) (R.le (by omega)) (X₂.ns0 GK) (o₁.t.pure P₂) o₂.t hz fun s₃ P₃ => wpAny_truthy_bool ?_; simp only [Bool.false_eq_true, if_false]; exact hQ _ ((P₁.trans P₂).trans P₃)
      · cases hd
    · cases hd
  · cases hc
end
end Mine
end
section
open PySem PySem.W PyProof.Rows
namespace Mine
def goesN (n : String) : Bool := ["enumerate", "zip", "dict_itemiterator", "dict_reverseitemiterator", "odict_iterator", "itertools.zip_longest", "itertools.pairwise"].contains n
def IterOK (prog : Program) (w : World) (s : Shared) (N : Addr -> Prop) (I : Addr) (items : List PV) : Prop :=
  ∃ (fp : List Addr) (P : Nat -> Value -> Prop) (St : Nat -> Heap -> Prop),
    (∀ A : Around, A.handled = none -> Walks prog w A I fp [I] items.length P St) /\ St 0 s.heap /\ (∀ i h, St i h -> ∃ o, h.get? I = some o /\ (∀ v, o.data ≠ .cell v) /\ ∃ n, o.cls = .type n /\ goesN n = false) /\
    (∀ b ∈ fp, b = I \/ ¬ N b /\ b < s.heap.objs.size) /\ (∀ i v, i < items.length -> P i v -> ∃ p, items[i]? = some p /\ RV prog w s.heap (fun b => N b \/ b = I) v p)
section
variable (prog : Program) (w : World) (h₀ : Heap) (GL : List (Str × G)) (F : Nat -> List PV -> Option PV) (fa : Nat -> Addr) (B : Nat)
def IterP (p : PI) : Prop := ∀ {A : Around} {cx : Cx} {asg : List Str} {env : Env} {s : Shared} {Na No : Addr -> Prop} {pe : PEnv} {e : PySem.Expr} {items : List PV} {Q : Value -> Shared -> Prop} {E : Value -> Shared -> Prop},
  Room A (ndi p + B) -> EnvR prog w h₀ cx asg env s Na No pe -> chkI GL cx e p = true -> denI F p pe = some items ->
  (∀ I s', Pure s s' -> s.heap.objs.size <= I -> I < s'.heap.objs.size -> items.length <= 100000 -> IterOK prog w s' (fun b => Na b \/ No b) I items -> Q (.ref I) s') ->
  wpAny (model prog w) A (eval e env) (fun x s₁ => wpAny (model prog w) A (pyIter x) Q E s₁) E s
end
section
variable {prog : Program} {w : World} {h₀ : Heap} {GL : List (Str × G)} {F : Nat -> List PV -> Option PV} {fa : Nat -> Addr} {B : Nat}
variable {A : Around} {cx : Cx} {asg : List Str} {env : Env} {s : Shared} {Na No : Addr -> Prop} {pe : PEnv} {E : Value -> Shared -> Prop}
theorem iter_seq {v : Value} {p : PV} {items : List PV} {Q : Value -> Shared -> Prop} {N : Addr -> Prop} (hN : Low N s.heap) (rv : RV prog w s.heap N v p) (h : itemsF p = some items)
    (hQ : ∀ I s', Pure s s' -> s.heap.objs.size <= I -> I < s'.heap.objs.size -> items.length <= 100000 -> IterOK prog w s' N I items -> Q (.ref I) s') : wpAny (model prog w) A (pyIter v) Q E s := by
  have hI : ∀ o : Obj, o.isFreed = false -> (s.heap.push o).get? s.heap.objs.size = some o := fun o h => Heap.get?_push_size _ h; have hsz : ∀ o : Obj, s.heap.objs.size < (s.heap.push o).objs.size := fun o => by simp [Heap.size_push]
  have av : ∀ (o : Obj) {vs : List Value} {l : List PV}, RVs prog w s.heap N vs l -> RVs prog w (s.heap.push o) (fun b => N b \/ b = s.heap.objs.size) vs l := fun o vs l r =>
    r.avoid (fun _ _ e => Heap.get?_push_of_some _ e) (by simp [Heap.size_push]) (Nat.le_refl _)
  unfold itemsF at h; split at h
  · cases rv with
    | @lst a vs l hn pa ra =>
    split at h <;> cases h; rename_i hlen; have hlt : a < s.heap.objs.size := let ⟨n, e⟩ := pa; Heap.lt_size e; refine wpAny_pyIter_list pa.isList (hQ _ _ (Pure.push s _ (Nat.le_refl _)) (Nat.le_refl _) (hsz _) hlen ⟨[s.heap.objs.size, a], fun i v => vs.toArray[i]? = some v, fun i h => h.IsListIter s.heap.objs.size a i /\ h.IsList a vs.toArray, fun A' hA => ?_, ⟨⟨_, hI _ rfl, rfl, rfl⟩, ?_⟩, fun i h st => let ⟨⟨o, ho, hc, hd⟩, _⟩ := st; ⟨o, ho, (fun v e => by rw [hd] at e; cases e), _, hc, by decide⟩, ?_, fun i v hlt hv => ?_⟩)
    · have := Walks.list (prog := prog) (w := w) hA s.heap.objs.size a (Nat.ne_of_lt hlt) vs.toArray; rw [show vs.toArray.size = items.length by simp [ra.length]] at this; exact this
    · exact pa.isList.at fun o e => Heap.get?_push_of_some _ e
    · intro b hb; simp only [List.mem_cons, List.not_mem_nil, or_false] at hb; rcases hb with rfl | rfl
      · exact .inl rfl
      · exact .inr ⟨hn, Nat.lt_trans hlt (hsz _)⟩
    · have hv' : vs[i]? = some v := by simpa using hv
      have hi : i < items.length := by
        have := (List.getElem?_eq_some_iff.mp hv').1; rw [<- ra.length]; exact this
      obtain ⟨u, hu, hr⟩ := (av _ ra).get (k := i) (p := items[i]) (by simp [hi]); rw [hv'] at hu; cases hu; exact ⟨items[i], by simp [hi], hr⟩
  · cases rv with
    | @tup a vs l hn pa ra =>
    split at h <;> cases h; rename_i hlen; have hlt : a < s.heap.objs.size := let ⟨n, e⟩ := pa; Heap.lt_size e; refine wpAny_pyIter_tuple pa.isTuple (hQ _ _ (Pure.push s _ (Nat.le_refl _)) (Nat.le_refl _) (hsz _) hlen ⟨[s.heap.objs.size, a], fun i v => vs.toArray[i]? = some v, fun i h => h.IsTupleIter s.heap.objs.size a i /\ h.IsTuple a vs.toArray, fun A' hA => ?_, ⟨⟨_, hI _ rfl, rfl, rfl⟩, ?_⟩, fun i h st => let ⟨⟨o, ho, hc, hd⟩, _⟩ := st; ⟨o, ho, (fun v e => by rw [hd] at e; cases e), _, hc, by decide⟩, ?_, fun i v hlt hv => ?_⟩)
    · have := Walks.tuple (prog := prog) (w := w) hA s.heap.objs.size a (Nat.ne_of_lt hlt) vs.toArray; rw [show vs.toArray.size = items.length by simp [ra.length]] at this; exact this
    · obtain ⟨o, h1, h2⟩ := pa.isTuple; exact ⟨o, Heap.get?_push_of_some _ h1, h2⟩
    · intro b hb; simp only [List.mem_cons, List.not_mem_nil, or_false] at hb; rcases hb with rfl | rfl
      · exact .inl rfl
      · exact .inr ⟨hn, Nat.lt_trans hlt (hsz _)⟩
    · have hv' : vs[i]? = some v := by simpa using hv
      have hi : i < items.length := by
        have := (List.getElem?_eq_some_iff.mp hv').1; rw [<- ra.length]; exact this
      obtain ⟨u, hu, hr⟩ := (av _ ra).get (k := i) (p := items[i]) (by simp [hi]); rw [hv'] at hu; cases hu; exact ⟨items[i], by simp [hi], hr⟩
  · rename_i x; cases rv with
    | str _ t =>
    split at h
    case isFalse => cases h
    rename_i hc; injection h with h; subst h; have hl : (x.cps.toList.map fun c => PV.str ⟨#[c]⟩).length = x.cps.size := by simp
    refine wpAny_pyIter_ascii hc.2 (hQ _ _ (Pure.push s _ (Nat.le_refl _)) (Nat.le_refl _) (hsz _) (by rw [hl]; exact hc.1) ⟨[s.heap.objs.size], SignAt x, fun i h => h.IsStrIter s.heap.objs.size "str_ascii_iterator" x t i, fun A' hA => ?_, ⟨_, hI _ rfl, rfl, rfl⟩, fun i h st => let ⟨o, ho, hc, hd⟩ := st; ⟨o, ho, (fun v e => by rw [hd] at e; cases e), _, hc, by decide⟩, ?_, fun i v hlt hv => ?_⟩)
    · have := Walks.strAscii (prog := prog) (w := w) hA s.heap.objs.size x t; rw [<- hl] at this; exact this
    · intro b hb; simp only [List.mem_cons, List.not_mem_nil, or_false] at hb; exact .inl hb
    · obtain ⟨c, u, hc, rfl⟩ := hv; exact ⟨.str ⟨#[c]⟩, by simp [hc], .str _ _⟩
  · cases h
theorem iter_range {s' : Shared} {r : Addr} {a b c : Int} {t u v : Tok} {n : Nat} {items : List PV} {Q : Value -> Shared -> Prop} {N : Addr -> Prop} (P : Pure s s') (hr : IsRange s'.heap r a b c t u v) (hs : Builtin.Range.small a b c = true)
    (hn : Builtin.Range.rangeSize a b c = n) (hi : items = (List.range n).map fun k : Nat => PV.int (a + (k : Int) * c)) (hlen : n <= 100000)
    (hQ : ∀ I s₂, Pure s s₂ -> s.heap.objs.size <= I -> I < s₂.heap.objs.size -> items.length <= 100000 -> IterOK prog w s₂ N I items -> Q (.ref I) s₂) : wpAny (model prog w) A (pyIter (.ref r)) Q E s' := by
  have hI : ∀ o : Obj, o.isFreed = false -> (s'.heap.push o).get? s'.heap.objs.size = some o := fun o h => Heap.get?_push_size _ h; have hl : items.length = n := by rw [hi]; simp
  subst hl; refine wpAny_pyIter_range hr hs (hQ _ _ (P.trans (Pure.push s' _ (Nat.le_refl _))) P.step.grow (by simp [Heap.size_push]) hlen ⟨[s'.heap.objs.size], fun i v => ∃ t, v = .int (a + i * c) t, fun i h => IsRangeIter h s'.heap.objs.size (a + (i : Nat) * c) ((items.length : Int) - (i : Nat)) c, fun A' hA => ?_, ?_, fun i h st => ⟨_, st, (fun v e => (nomatch e)), _, rfl, by decide⟩, ?_, fun i v hlt hv => ?_⟩)
  · have := Walks.range (prog := prog) (w := w) hA s'.heap.objs.size a c items.length; exact this
  · have := hI { cls := .type "range_iterator", data := .fields #[rawInt a, rawInt (Builtin.Range.rangeSize a b c), rawInt c] } rfl; rw [hn] at this ⊢
    simpa [IsRangeIter] using this
  · intro b hb; simp only [List.mem_cons, List.not_mem_nil, or_false] at hb; exact .inl hb
  · obtain ⟨t, rfl⟩ := hv; exact ⟨.int (a + (i : Int) * c), by rw [hi]; simp [hlt], .int _ _⟩
theorem rangeF_inv {a b : Int} {items : List PV} (h : rangeF a b = some items) : Builtin.Range.small a b 1 = true /\ Builtin.Range.rangeSize a b 1 = ((b - a).toNat : Nat) /\ items = (List.range (b - a).toNat).map (fun k : Nat => PV.int (a + (k : Int) * 1)) /\ (b - a).toNat <= 100000 := by
  unfold rangeF at h; split at h <;> cases h; rename_i hc; have hs : Builtin.Range.rangeSize a b 1 = ((b - a).toNat : Nat) := by
    unfold Builtin.Range.rangeSize; rw [if_pos (by decide)]; split <;> omega
  refine ⟨?_, hs, by simp, by omega⟩; unfold Builtin.Range.small; rw [hs]; simp only [Builtin.Range.rangeFitsLong, Bool.and_eq_true, Bool.or_eq_true, decide_eq_true_eq, beq_iff_eq]; refine ⟨⟨⟨⟨by omega, by omega⟩, by omega⟩, by omega⟩, .inr ?_⟩; rw [if_pos (by decide)]; simp only [Bool.and_eq_true, decide_eq_true_eq]; omega
theorem rangeD_inv {a b : Int} {items : List PV} (h : rangeD a b = some items) : Builtin.Range.small a b (-1) = true /\ Builtin.Range.rangeSize a b (-1) = ((a - b).toNat : Nat) /\ items = (List.range (a - b).toNat).map (fun k : Nat => PV.int (a + (k : Int) * (-1))) /\ (a - b).toNat <= 100000 := by
  unfold rangeD at h; split at h <;> cases h; rename_i hc; have hs : Builtin.Range.rangeSize a b (-1) = ((a - b).toNat : Nat) := by
    unfold Builtin.Range.rangeSize; rw [if_neg (by decide)]; split
    · have e : -(-1 : Int) = 1 := by decide
      rw [e, Int.ediv_one]; omega
    · omega
  refine ⟨?_, hs, ?_, by omega⟩
  · unfold Builtin.Range.small; rw [hs]; simp only [Builtin.Range.rangeFitsLong, Bool.and_eq_true, Bool.or_eq_true, decide_eq_true_eq, beq_iff_eq]; refine ⟨⟨⟨⟨by omega, by omega⟩, by omega⟩, by omega⟩, .inr ?_⟩; rw [if_neg (by decide)]; simp only [Bool.and_eq_true, decide_eq_true_eq]; omega
  · apply List.map_congr_left; intro k _; congr 1; omega
theorem iter_val {p : PE} (hp : EvalP prog w h₀ GL F B p) : IterP prog w h₀ GL F B (.val p) := by
  intro A cx asg env s Na No pe e items Q E R X hc hd hQ; unfold chkI at hc; simp only [denI] at hd; split at hd
  · rename_i q d1; refine hp R X hc d1 fun v s₁ P₁ o₁ => ?_; exact iter_seq (X.pure P₁).low (o₁.f rfl) hd fun I s₂ P₂ h1 h2 h3 h4 => hQ I s₂ (P₁.trans P₂) (Nat.le_trans P₁.step.grow h1) h2 h3 h4
  · cases hd
theorem iter_rng1 (GK : Glo prog w h₀ GL fa) {p : PE} (hp : EvalP prog w h₀ GL F B p) : IterP prog w h₀ GL F B (.rng1 p) := by
  intro A cx asg env s Na No pe e items Q E R X hc hd hQ; unfold chkI at hc; split at hc
  · rename_i g x pos; simp only [Bool.and_eq_true] at hc; obtain ⟨⟨h1, h2⟩, h3⟩ := hc; simp only [denI] at hd; split at hd
    · rename_i n d1; obtain ⟨y, ypos, g, rfl, k1, k2, k3, k4⟩ := globB_inv h1; refine wpAny_Call_NameR (glob_sound GK X k1 k2 k3 fun v hv => ?_); cases g <;> simp [isRng] at k4; subst hv; have hb : backTo pos (starEach [x] env) = [(false, eval x env)] := by rw [starEach_cons h3]; rfl
      rw [hb]; refine PyProof.Rows.callWith_type (by rfl) (Calls.evalArgs_plain (Calls.spliced_cons (hp R X h2 d1 fun v s₁ P₁ o₁ => Calls.spliced_nil ?_))); have o1 := o₁.t; cases o1 with
      | int _ t =>
      obtain ⟨q1, q2, q3, q4⟩ := rangeF_inv hd; exact call_range_1 (iter_range (P₁.trans (Pure.push s₁ _ (by omega))) (IsRange.new _ _ _ _ _ _ _) q1 q2 q3 q4 hQ)
    · cases hd
  · cases hc
theorem iter_rng2 (GK : Glo prog w h₀ GL fa) {p q : PE} (hp : EvalP prog w h₀ GL F B p) (hq : EvalP prog w h₀ GL F B q) : IterP prog w h₀ GL F B (.rng2 p q) := by
  intro A cx asg env s Na No pe e items Q E R X hc hd hQ; have R1 : Room A (nd p + B) := R.le (by simp only [ndi]; omega); have R2 : Room A (nd q + B) := R.le (by simp only [ndi]; omega); unfold chkI at hc; split at hc
  · rename_i g x z pos; simp only [Bool.and_eq_true] at hc; obtain ⟨⟨⟨⟨h1, h2⟩, h3⟩, h4⟩, h5⟩ := hc; simp only [denI] at hd; split at hd
    · rename_i a b d1 d2; obtain ⟨y, ypos, g, rfl, k1, k2, k3, k4⟩ := globB_inv h1; refine wpAny_Call_NameR (glob_sound GK X k1 k2 k3 fun v hv => ?_); cases g <;> simp [isRng] at k4; subst hv; have hb : backTo pos (starEach [x, z] env) = [(false, eval x env), (false, eval z env)] := by rw [starEach_cons h4, starEach_cons h5]; rfl
      rw [hb]; refine PyProof.Rows.callWith_type (by rfl) (Calls.evalArgs_plain (Calls.spliced_cons (hp R1 X h2 d1 fun v s₁ P₁ o₁ => Calls.spliced_cons (hq R2 (X.pure P₁) h3 d2 fun u s₂ P₂ o₂ => Calls.spliced_nil ?_)))); have o1 := o₁.t; have o2 := o₂.t; cases o1 with
      | int _ t =>
      cases o2 with
      | int _ u =>
      obtain ⟨q1, q2, q3, q4⟩ := rangeF_inv hd; exact call_range_2 (iter_range ((P₁.trans P₂).trans (Pure.push s₂ _ (by omega))) (IsRange.new _ _ _ _ _ _ _) q1 q2 q3 q4 hQ)
    · cases hd
  · cases hc
theorem iter_rng3 (GK : Glo prog w h₀ GL fa) {p q : PE} (hp : EvalP prog w h₀ GL F B p) (hq : EvalP prog w h₀ GL F B q) : IterP prog w h₀ GL F B (.rng3 p q) := by
  intro A cx asg env s Na No pe e items Q E R X hc hd hQ; have R1 : Room A (nd p + B) := R.le (by simp only [ndi]; omega); have R2 : Room A (nd q + B) := R.le (by simp only [ndi]; omega); unfold chkI at hc; split at hc
  · rename_i g x z kk pp up pos; simp only [Bool.and_eq_true] at hc; obtain ⟨⟨⟨⟨h1, h2⟩, h3⟩, h4⟩, h5⟩ := hc; simp only [denI] at hd; split at hd
    · rename_i a b d1 d2; obtain ⟨y, ypos, g, rfl, k1, k2, k3, k4⟩ := globB_inv h1; refine wpAny_Call_NameR (glob_sound GK X k1 k2 k3 fun v hv => ?_); cases g <;> simp [isRng] at k4; subst hv; have hb : backTo pos (starEach [x, z, .UnaryOp .USub (.Constant (.int 1) kk pp) up] env) = [(false, eval x env), (false, eval z env), (false, eval (.UnaryOp .USub (.Constant (.int 1) kk pp) up) env)] := by
        rw [starEach_cons h4, starEach_cons h5]; rfl
      rw [hb]; refine PyProof.Rows.callWith_type (by rfl) (Calls.evalArgs_plain (Calls.spliced_cons (hp R1 X h2 d1 fun v s₁ P₁ o₁ => Calls.spliced_cons (hq R2 (X.pure P₁) h3 d2 fun u s₂ P₂ o₂ => Calls.spliced_cons (wpAny_UnaryOp (wpAny_mkInt (P.neg_int (Calls.spliced_nil ?_)))))))); have o1 := o₁.t; have o2 := o₂.t; cases o1 with
      | int _ t =>
      cases o2 with
      | int _ u =>
      obtain ⟨q1, q2, q3, q4⟩ := rangeD_inv hd; exact call_range_3 (by decide) (iter_range ((P₁.trans P₂).trans (Pure.push s₂ _ (by simp only; omega))) (IsRange.new _ _ _ _ _ _ _) q1 q2 q3 q4 hQ) (Or.inl (PyProof.noPylong_small (by decide)))
    · cases hd
  · cases hc
end
end Mine
end
section
open PySem PySem.W PyProof.Rows
namespace Mine
def clr : PEnv -> Nat -> PEnv
  | [], _ => []
  | _ :: l, 0 => none :: l
  | a :: l, n + 1 => a :: clr l n
theorem lk_clr {j : Nat} {q : PV} : ∀ {pe : PEnv} {i : Nat}, lk (clr pe i) j = some q -> j ≠ i /\ lk pe j = some q
  | [], _, h => by simp [clr, lk] at h
  | a :: l, 0, h => by
    cases j with
    | zero => simp [clr, lk] at h
    | succ j => exact ⟨by simp, by simpa [clr, lk] using h⟩
  | a :: l, n + 1, h => by
    cases j with
    | zero => exact ⟨by simp, by simpa [clr, lk] using h⟩
    | succ j =>
      simp only [clr, lk] at h ⊢; have := lk_clr (pe := l) h; exact ⟨by omega, this.2⟩
theorem st_clr {p : PV} : ∀ {pe : PEnv} {i : Nat}, st (clr pe i) i p = st pe i p
  | [], _ => rfl
  | _ :: _, 0 => rfl
  | a :: l, n + 1 => by simp only [clr, st, st_clr]
theorem st_st {p q : PV} : ∀ {pe : PEnv} {i : Nat}, st (st pe i p) i q = st pe i q
  | [], _ => rfl
  | _ :: _, 0 => rfl
  | a :: l, n + 1 => by simp only [st, st_st]
def clo (env : Env) : List (Str × NameKind) -> List (Str × Addr) -> List (Str × Addr)
  | [], acc => acc
  | (n, k) :: r, acc => if k == .free then clo env r ((n, (env.cells.lookup n).getD 0) :: acc) else clo env r acc
theorem closureFor_go {env : Env} (f : Str × NameKind -> List (Str × Addr) -> Sem (ForInStep (List (Str × Addr))))
    (hf : ∀ n k cs, f (n, k) cs = if k == .free then (do let a <- cellOf env n; Pure.pure (.yield ((n, a) :: cs))) else Pure.pure (.yield cs)) :
    ∀ (names : List (Str × NameKind)) (acc : List (Str × Addr)), (∀ n, (n, NameKind.free) ∈ names -> ∃ c, env.cells.lookup n = some c) -> forIn names acc f = Pure.pure (clo env names acc)
  | [], acc, _ => by rw [List.forIn_nil]; rfl
  | (n, k) :: r, acc, h => by
    rw [List.forIn_cons, hf]; unfold clo
    by_cases hk : (k == NameKind.free) = true
    · rw [if_pos hk, if_pos hk]; obtain ⟨c, hc⟩ := h n (by rw [eq_of_beq hk]; exact List.mem_cons_self); unfold cellOf; rw [hc]; simp only [pure_bind, Option.getD_some]; exact closureFor_go f hf r _ fun m hm => h m (List.mem_cons_of_mem _ hm)
    · rw [if_neg hk, if_neg hk]; simp only [pure_bind]; exact closureFor_go f hf r _ fun m hm => h m (List.mem_cons_of_mem _ hm)
theorem closureFor_clo {env : Env} {scope : Scope} (h : ∀ n, (n, NameKind.free) ∈ scope.names -> ∃ c, env.cells.lookup n = some c) : closureFor scope env = Pure.pure (clo env scope.names []) := by
  unfold closureFor
  dsimp only
  rw [closureFor_go (env := env) _ (fun n k cs => by
    by_cases hk : (k == NameKind.free) = true
    · simp only [hk, if_true]
    · simp only [Bool.not_eq_true] at hk; simp only [hk, Bool.false_eq_true, if_false]) scope.names [] h]
  rfl
theorem nodup_lookup {V : Type} : ∀ {l : List (Str × V)} {x : Str} {v : V}, nodupB (l.map (·.1)) = true -> (x, v) ∈ l -> l.lookup x = some v
  | (y, u) :: l, x, v, h, hm => by
    simp only [List.map_cons, nodupB, Bool.and_eq_true, Bool.not_eq_true', List.contains_eq_mem, decide_eq_false_iff_not] at h; rcases List.mem_cons.mp hm with e | hm
    · cases e; simp
    · have hne : x ≠ y := fun e => h.1 (e ▸ List.mem_map_of_mem (f := (·.1)) hm); rw [List.lookup_cons, show (x == y) = false from by simpa using hne]; exact nodup_lookup h.2 hm
theorem mem_lookup {V : Type} : ∀ {l : List (Str × V)} {x : Str} {v : V}, l.lookup x = some v -> (x, v) ∈ l
  | (y, u) :: l, x, v, h => by
    rw [List.lookup_cons] at h; split at h
    · rename_i e; cases h; rw [eq_of_beq e]; exact List.mem_cons_self
    · exact List.mem_cons_of_mem _ (mem_lookup h)
theorem clo_none {env : Env} {y : Str} : ∀ {names : List (Str × NameKind)} {acc : List (Str × Addr)}, (y, NameKind.free) ∉ names -> (clo env names acc).lookup y = acc.lookup y
  | [], _, _ => rfl
  | (n, k) :: r, acc, h => by
    unfold clo; have hr : (y, NameKind.free) ∉ r := fun q => h (List.mem_cons_of_mem _ q); split
    · rename_i hk; rw [clo_none hr, List.lookup_cons]; have : (y == n) = false := by
        simp only [beq_eq_false_iff_ne, ne_eq]
        rintro rfl
        exact h (by rw [eq_of_beq hk]; exact List.mem_cons_self)
      rw [this]
    · exact clo_none hr
theorem clo_some {env : Env} {y : Str} : ∀ {names : List (Str × NameKind)} {acc : List (Str × Addr)}, nodupB (names.map (·.1)) = true -> (y, NameKind.free) ∈ names -> (clo env names acc).lookup y = some ((env.cells.lookup y).getD 0)
  | (n, k) :: r, acc, hn, h => by
    unfold clo; simp only [List.map_cons, nodupB, Bool.and_eq_true, Bool.not_eq_true', List.contains_eq_mem, decide_eq_false_iff_not] at hn; rcases List.mem_cons.mp h with e | h'
    · cases e; rw [if_pos (by rfl), clo_none (fun q => hn.1 (List.mem_map_of_mem (f := (·.1)) q))]; simp
    · split
      · exact clo_some hn.2 h'
      · exact clo_some hn.2 h'
theorem cellsFrom_none {y : Str} : ∀ {names : List (Str × NameKind)} {n : Nat} {acc : List (Str × Addr)}, (y, NameKind.cell) ∉ names -> (cellsFrom n names acc).lookup y = acc.lookup y
  | [], _, _, _ => rfl
  | (m, k) :: r, n, acc, h => by
    unfold cellsFrom; have hr : (y, NameKind.cell) ∉ r := fun q => h (List.mem_cons_of_mem _ q); split
    · rename_i hk; rw [cellsFrom_none hr, List.lookup_cons]; have : (y == m) = false := by
        simp only [beq_eq_false_iff_ne, ne_eq]
        rintro rfl
        exact h (by rw [eq_of_beq hk]; exact List.mem_cons_self)
      rw [this]
    · exact cellsFrom_none hr
theorem cellsFrom_some {y : Str} : ∀ {names : List (Str × NameKind)} {h : Heap} {acc : List (Str × Addr)}, nodupB (names.map (·.1)) = true -> (y, NameKind.cell) ∈ names ->
    ∃ c, (cellsFrom h.objs.size names acc).lookup y = some c /\ h.objs.size <= c /\ (pushCells h names).IsCell c none
  | (m, k) :: r, h, acc, hn, hm => by
    unfold cellsFrom pushCells; simp only [List.map_cons, nodupB, Bool.and_eq_true, Bool.not_eq_true', List.contains_eq_mem, decide_eq_false_iff_not] at hn; rcases List.mem_cons.mp hm with e | h'
    · cases e; rw [if_pos (by rfl), if_pos (by rfl)]; refine ⟨h.objs.size, ?_, Nat.le_refl _, ?_⟩
      · rw [cellsFrom_none (fun q => hn.1 (List.mem_map_of_mem (f := (·.1)) q))]; simp
      · exact ⟨_, pushCells_keeps r _ _ _ (Heap.get?_push_size _ rfl), rfl⟩
    · split
      · have := cellsFrom_some (h := h.push { cls := .type "cell", data := .cell none }) (acc := (m, h.objs.size) :: acc) hn.2 h'; rw [Heap.size_push] at this; obtain ⟨c, h1, h2, h3⟩ := this; exact ⟨c, h1, by omega, h3⟩
      · exact cellsFrom_some hn.2 h'
theorem pushCells_grow : ∀ (names : List (Str × NameKind)) (h : Heap), h.objs.size <= (pushCells h names).objs.size
  | [], _ => Nat.le_refl _
  | (_, k) :: r, h => by
    unfold pushCells; split
    · exact Nat.le_trans (by simp [Heap.size_push]) (pushCells_grow r _)
    · exact pushCells_grow r h
section
variable {M : Model} {A : Around} {E : Value -> Shared -> Prop} {s : Shared} {env : Env}
theorem compEnv_sound {scope : Scope} {globals : Addr} {cl : List (Str × Addr)} {qual : Str} {Q : Env -> Shared -> Prop}
    (h : Q { scope, locals := s.heap.objs.size, globals, cells := cellsFrom (s.heap.objs.size + 1) scope.names cl, qual, func := none, code := env.code, frame := env.frame, builtins := env.builtins }
      { s with heap := pushCells (s.heap.push { cls := .type "dict", data := .dict #[] }) scope.names }) :
    wpAny M A (newFunctionEnv scope globals cl [] qual none .none (some env)) Q E s := by
  unfold newFunctionEnv; refine wpAny_bind (wpAny_alloc ?_); refine wpAny_bind (wpAny_layCells _ (fun name kind cells => ?_) scope.names cl _ _ ?_)
  · by_cases hk : (kind == NameKind.cell) = true
    · simp only [hk, if_true]
    · simp only [Bool.not_eq_true] at hk; simp only [hk, Bool.false_eq_true, if_false]
  · dsimp only [Option.isSome_some, if_true]
    rw [Heap.size_push]; rw [List.forIn_nil]; exact wpAny_bind (wpAny_pure (wpAny_pure h))
end
theorem relabel_lookup {env : Env} {names : List (Str × NameKind)} {y : Str} {k : NameKind} (h : names.lookup y = some k) :
    (k ≠ .free -> (names.map fun (n, k) => if (k == NameKind.free && env.scope.kind == .function && env.kindOf n == some .cell) then (n, NameKind.cell) else (n, k)).lookup y = some k) /\
    (k = .free -> (names.map fun (n, k) => if (k == NameKind.free && env.scope.kind == .function && env.kindOf n == some .cell) then (n, NameKind.cell) else (n, k)).lookup y = some .cell \/
      (names.map fun (n, k) => if (k == NameKind.free && env.scope.kind == .function && env.kindOf n == some .cell) then (n, NameKind.cell) else (n, k)).lookup y = some .free) := by
  induction names with
  | nil => simp at h
  | cons a r ih =>
    obtain ⟨n, k'⟩ := a; rw [List.lookup_cons] at h; simp only [List.map_cons]; cases hx : y == n with
    | true =>
      simp only [hx] at h; cases h
      by_cases hc : (k == NameKind.free && env.scope.kind == .function && env.kindOf n == some .cell) = true
      · rw [if_pos hc, List.lookup_cons]; simp only [hx]; simp only [Bool.and_eq_true] at hc; exact ⟨fun q => absurd (eq_of_beq hc.1.1) q, fun _ => .inl trivial⟩
      · rw [if_neg hc, List.lookup_cons]; simp only [hx]; exact ⟨fun _ => trivial, fun q => .inr (by rw [q])⟩
    | false =>
      simp only [hx] at h; have := ih h
      by_cases hc : (k' == NameKind.free && env.scope.kind == .function && env.kindOf n == some .cell) = true
      · rw [if_pos hc, List.lookup_cons]; simp only [hx]; exact this
      · rw [if_neg hc, List.lookup_cons]; simp only [hx]; exact this
theorem compOk_inv {cx : Cx} {sc : Scope} {x : Str} {i : Nat} (h : compOk cx sc x i = true) : sc.kind = .function /\ nodupB (sc.names.map (·.1)) = true /\ ((x, NameKind.local) ∈ sc.names \/ (x, NameKind.cell) ∈ sc.names) /\
    (∀ y k, (y, k) ∈ sc.names -> k = .local \/ (k = .cell /\ y = x) \/ k = .globalImplicit \/ (k = .free /\ (cx.vars.lookup y).isSome = true /\ cx.vars.lookup y ≠ some i /\ (cx.kinds.lookup y = some .cell \/ cx.kinds.lookup y = some .free))) /\ cx.own.contains i = false := by
  unfold compOk at h; simp only [Bool.and_eq_true, Bool.not_eq_true', Bool.or_eq_true, List.all_eq_true] at h; obtain ⟨⟨⟨⟨⟨⟨h1, _⟩, _⟩, h2⟩, h3⟩, h4⟩, h5⟩ := h; refine ⟨eq_of_beq h1, h2, h3.imp (fun q => mem_lookup (eq_of_beq q)) (fun q => mem_lookup (eq_of_beq q)), fun y k hm => ?_, h5⟩; have := h4 (y, k) hm; simp only at this; rcases this with ((⟨q, _⟩ | ⟨q1, q2⟩) | q) | ⟨⟨⟨q1, q2⟩, q3⟩, q4⟩
  · exact .inl (eq_of_beq q)
  · exact .inr (.inl ⟨eq_of_beq q1, eq_of_beq q2⟩)
  · exact .inr (.inr (.inl (eq_of_beq q)))
  · exact .inr (.inr (.inr ⟨eq_of_beq q1, q2, by simpa using q3, q4.imp (fun q => eq_of_beq q) (fun q => eq_of_beq q)⟩))
theorem compCx_vars {cx : Cx} {names : List (Str × NameKind)} {x y : Str} {i j : Nat} (h : (compCx cx names x i).vars.lookup y = some j) : (y = x /\ j = i) \/ (y ≠ x /\ (y, NameKind.free) ∈ names /\ cx.vars.lookup y = some j) := by
  unfold compCx at h; simp only [List.lookup_cons] at h; split at h
  · rename_i e; cases h; exact .inl ⟨eq_of_beq e, rfl⟩
  · rename_i e; have hm := mem_lookup h; obtain ⟨⟨n, k⟩, hn, he⟩ := List.mem_filterMap.mp hm; simp only at he; split at he
    · rename_i hk; cases hl : cx.vars.lookup n with
      | none => rw [hl] at he; cases he
      | some j' =>
        rw [hl] at he; simp only [Option.map_some, Option.some.injEq, Prod.mk.injEq] at he; obtain ⟨rfl, rfl⟩ := he; exact .inr ⟨by simpa using e, by rw [<- eq_of_beq hk]; exact hn, hl⟩
    · cases he
end Mine
end
section
open PySem PySem.W PyProof.Rows
namespace Mine
section
variable {prog : Program} {w : World} {h₀ : Heap} {GL : List (Str × G)} {F : Nat -> List PV -> Option PV} {fa : Nat -> Addr} {B : Nat}
variable {A : Around} {cx : Cx} {asg : List Str} {env : Env} {s : Shared} {Na No : Addr -> Prop} {pe : PEnv} {E : Value -> Shared -> Prop}
def cEnv (sc : Scope) (env : Env) (C : Addr) : Env :=
  { scope := relabel sc env, locals := C, globals := env.globals, cells := cellsFrom (C + 1) sc.names (clo env sc.names []), qual := env.qual, func := none, code := env.code, frame := env.frame, builtins := env.builtins }
def cHeap (sc : Scope) (h : Heap) : Heap := pushCells (h.push { cls := .type "dict", data := .dict #[] }) sc.names
theorem cHeap_pure (sc : Scope) (s : Shared) : Pure s { s with heap := cHeap sc s.heap } :=
  Pure.of_heap (t := s.toks) (fun b o e => pushCells_keeps _ _ _ _ (Heap.get?_push_of_some _ e)) (Nat.le_trans (by simp [Heap.size_push]) (pushCells_grow _ _)) (Nat.le_refl _)
theorem cHeap_lt (sc : Scope) (h : Heap) : h.objs.size < (cHeap sc h).objs.size := Nat.lt_of_lt_of_le (by simp [Heap.size_push]) (pushCells_grow sc.names _)
theorem comp_env {sc : Scope} {x : Str} {i : Nat} (X : EnvR prog w h₀ cx asg env s Na No pe) (hok : compOk cx sc x i = true) :
    EnvR prog w h₀ (compCx cx sc.names x i) [x] (cEnv sc env s.heap.objs.size) { s with heap := cHeap sc s.heap } Na (fun b => No b \/ (s.heap.objs.size <= b /\ b < (cHeap sc s.heap).objs.size)) (clr pe i) := by
  obtain ⟨hk, hnd, hx, hall, hown⟩ := compOk_inv hok; have P := cHeap_pure sc s; have hsz : s.heap.objs.size + 1 = (s.heap.push { cls := .type "dict", data := .dict #[] }).objs.size := by simp [Heap.size_push]
  have W : Wider s No { s with heap := cHeap sc s.heap } (fun b => No b \/ (s.heap.objs.size <= b /\ b < (cHeap sc s.heap).objs.size)) :=
    ⟨P, fun _ q => .inl q, fun b q => q.imp id (·.1), fun b q => q.elim (fun q => Nat.lt_of_lt_of_le (X.lowO b q) P.step.grow) (·.2)⟩
  have X' := X.wide W; have hns : (cHeap sc s.heap).Ns s.heap.objs.size (fun _ => none) := (Heap.Ns.new s.heap (.type "dict")).keeps (pushCells_keeps sc.names _); have hcell : ∀ y, (y, NameKind.cell) ∈ sc.names -> ∃ c, (cEnv sc env s.heap.objs.size).cells.lookup y = some c /\ s.heap.objs.size + 1 <= c /\ (cHeap sc s.heap).IsCell c none := by
    intro y hy; have := cellsFrom_some (h := s.heap.push { cls := .type "dict", data := .dict #[] }) (acc := clo env sc.names []) hnd hy; rw [<- hsz] at this; exact this
  have hfree : ∀ y, (y, NameKind.free) ∈ sc.names -> ∃ c v, (cEnv sc env s.heap.objs.size).cells.lookup y = some c /\ env.cells.lookup y = some c /\ s.heap.IsCell c v /\ (env.kindOf y = some .cell \/ env.kindOf y = some .free) := by
    intro y hy; rcases hall y _ hy with h | ⟨h, _⟩ | h | ⟨_, h1, h2, h3⟩
    · cases h
    · cases h
    · cases h
    obtain ⟨q1, c, v, q2, q3⟩ := X.cl y h3; refine ⟨c, v, ?_, q2, q3, q1⟩; show (cellsFrom _ _ _).lookup y = some c; rw [cellsFrom_none, clo_some hnd hy, q2]
    · rfl
    · intro hc; have h1 := nodup_lookup hnd hc; have h2 := nodup_lookup hnd hy; rw [h1] at h2; cases h2
  have hkf : ∀ y, (y, NameKind.free) ∈ sc.names -> (cEnv sc env s.heap.objs.size).kindOf y = some .cell \/ (cEnv sc env s.heap.objs.size).kindOf y = some .free := fun y hy =>
    (relabel_lookup (env := env) (nodup_lookup hnd hy)).2 rfl
  have hko : ∀ y k, k ≠ NameKind.free -> (y, k) ∈ sc.names -> (cEnv sc env s.heap.objs.size).kindOf y = some k := fun y k hk hy =>
    (relabel_lookup (env := env) (nodup_lookup hnd hy)).1 hk
  have fwd : ∀ y v, (y, NameKind.free) ∈ sc.names -> BindAt env s.heap y v -> BindAt (cEnv sc env s.heap.objs.size) (cHeap sc s.heap) y v := by
    intro y v hy hb; obtain ⟨c, u, q1, q2, q3, q4⟩ := hfree y hy; cases hb with
    | loc m h1 => rw [h1] at q4; rcases q4 with q4 | q4 <;> cases q4
    | cell c' h1 h2 h3 =>
      rw [q2] at h2; cases h2; exact .cell c (hkf y hy) q1 (h3.keeps P.keep)
  have back : ∀ y j v, (y, NameKind.free) ∈ sc.names -> cx.vars.lookup y = some j -> (lk pe j).isSome = true -> BindAt (cEnv sc env s.heap.objs.size) (cHeap sc s.heap) y v -> BindAt env s.heap y v := by
    intro y j v hy h1 h2 hb; obtain ⟨p, hp⟩ := Option.isSome_iff_exists.mp h2; obtain ⟨u, hu, _⟩ := X.vars y j p h1 hp; have := (fwd y u hy hu).same hb; subst this; exact hu
  have clrS : ∀ j, (lk (clr pe i) j).isSome = true -> j ≠ i /\ (lk pe j).isSome = true := by
    intro j h; obtain ⟨p, hp⟩ := Option.isSome_iff_exists.mp h; have := lk_clr hp; exact ⟨this.1, by rw [this.2]; rfl⟩
  exact {
    base := X'.base
    kind := hk
    glb := X.glb
    blt := X.blt
    gl := fun y hy => hko y _ (by decide) (mem_lookup hy)
    cl := fun y hy => by
      rcases hy with hy | hy
      · obtain ⟨c, q1, q2, q3⟩ := hcell y (mem_lookup hy); exact ⟨.inl (hko y _ (by decide) (mem_lookup hy)), c, none, q1, q3⟩
      · obtain ⟨c, u, q1, q2, q3, q4⟩ := hfree y (mem_lookup hy); exact ⟨hkf y (mem_lookup hy), c, u, q1, q3.keeps P.keep⟩
    ns := ⟨_, hns⟩
    noL := .inr ⟨Nat.le_refl _, cHeap_lt sc s.heap⟩
    cellsLow := fun y c h => by
      by_cases hc : (y, NameKind.cell) ∈ sc.names
      · obtain ⟨c', q1, q2, q3⟩ := hcell y hc; rw [q1] at h; cases h; exact q3.lt
      · by_cases hf : (y, NameKind.free) ∈ sc.names
        · obtain ⟨c', u, q1, q2, q3, q4⟩ := hfree y hf; rw [q1] at h; cases h; exact Nat.lt_of_lt_of_le q3.lt P.step.grow
        · exfalso; change (cellsFrom _ _ _).lookup y = some c at h; rw [cellsFrom_none hc, clo_none hf] at h; cases h
    apart := by
      have one : ∀ y c, (cEnv sc env s.heap.objs.size).cells.lookup y = some c -> (y = x /\ s.heap.objs.size < c) \/ (c < s.heap.objs.size /\ env.cells.lookup y = some c) := by
        intro y c h
        by_cases hc : (y, NameKind.cell) ∈ sc.names
        · obtain ⟨c', q1, q2, q3⟩ := hcell y hc; rw [q1] at h; cases h; rcases hall y _ hc with h | ⟨_, h⟩ | h | ⟨h, _⟩
          · cases h
          · exact .inl ⟨h, q2⟩
          · cases h
          · cases h
        · by_cases hf : (y, NameKind.free) ∈ sc.names
          · obtain ⟨c', u, q1, q2, q3, q4⟩ := hfree y hf; rw [q1] at h; cases h; exact .inr ⟨q3.lt, q2⟩
          · exfalso; change (cellsFrom _ _ _).lookup y = some c at h; rw [cellsFrom_none hc, clo_none hf] at h; cases h
      intro y z c h1 h2; rcases one y c h1 with ⟨rfl, q1⟩ | ⟨q1, q2⟩ <;> rcases one z c h2 with ⟨rfl, q3⟩ | ⟨q3, q4⟩
      · rfl
      · exact absurd q3 (Nat.not_lt.mpr (Nat.le_of_lt q1))
      · exact absurd q1 (Nat.not_lt.mpr (Nat.le_of_lt q3))
      · exact X.apart y z c q2 q4
    vars := fun y j p h1 h2 => by
      obtain ⟨hj, h2'⟩ := lk_clr h2; rcases compCx_vars h1 with ⟨_, rfl⟩ | ⟨hy, hf, hv⟩
      · exact absurd rfl hj
      · obtain ⟨v, hb, hs⟩ := X.vars y j p hv h2'; have hs' := hs.wide W; refine ⟨v, fwd y v hf hb, ?_, fun h => (nomatch h)⟩; have h3 := hs'.1; show if cx.own.contains j then _ else _; split
        · rename_i hc; rw [if_pos hc] at h3; obtain ⟨a, e, q1, q2, q3⟩ := h3; refine ⟨a, e, q1, ?_, q3⟩; have h4 := hs.1; rw [if_pos hc] at h4; obtain ⟨a', e', q1', q2', q3'⟩ := h4; rw [e] at e'; cases e'; exact Nat.ne_of_lt (X.base.low a q1')
        · rename_i hc; rw [if_neg hc] at h3; exact h3
    stores := fun y hy => by
      obtain rfl : y = x := by simpa using hy
      rcases hx with hx | hx
      · exact .loc (hko y _ (by decide) hx)
      · obtain ⟨c, q1, q2, q3⟩ := hcell y hx; exact .cell c none (hko y _ (by decide) hx) q1 (.inr ⟨by omega, q3.lt⟩) q3
    inj := fun y z j h1 h2 => by
      rcases compCx_vars h1 with ⟨rfl, rfl⟩ | ⟨hy, hf, hv⟩ <;> rcases compCx_vars h2 with ⟨rfl, e⟩ | ⟨hz, hg, hu⟩
      · rfl
      · rcases hall z _ hg with h | ⟨h, _⟩ | h | ⟨_, _, h, _⟩
        · cases h
        · cases h
        · cases h
        · exact absurd hu h
      · subst e; rcases hall y _ hf with h | ⟨h, _⟩ | h | ⟨_, _, h, _⟩
        · cases h
        · cases h
        · cases h
        · exact absurd hv h
      · exact X.inj y z j hv hu
    alone := fun y z j k a h1 h2 h3 h4 h5 h6 h7 h8 => by
      obtain ⟨j1, j2⟩ := clrS j h3; obtain ⟨k1, k2⟩ := clrS k h4; rcases compCx_vars h1 with ⟨_, e⟩ | ⟨hy, hf, hv⟩
      · exact absurd e j1
      rcases compCx_vars h2 with ⟨_, e⟩ | ⟨hz, hg, hu⟩
      · exact absurd e k1
      exact X.alone y z j k a hv hu j2 k2 h5 h6 (back y j _ hf hv j2 h7) (back z k _ hg hu k2 h8)
    disj := fun b hb ha => hb.elim (fun q => X.disj b q ha) fun q => by exact absurd (X.base.low b (.inl ha)) (Nat.not_lt.mpr q.1)
    turns := fun y j a h1 h2 h3 h4 => by
      obtain ⟨j1, j2⟩ := clrS j h3; rcases compCx_vars h1 with ⟨_, e⟩ | ⟨hy, hf, hv⟩
      · exact absurd e j1
      exact .inl (X.turns y j a hv h2 j2 (back y j _ hf hv j2 h4)) }
end
end Mine
end
section
open PySem PySem.W PyProof.Rows
namespace Mine
section
variable {prog : Program} {w : World} {h₀ : Heap} {GL : List (Str × G)} {F : Nat -> List PV -> Option PV} {fa : Nat -> Addr} {B : Nat}
variable {A : Around} {cx : Cx} {asg : List Str} {env : Env} {s : Shared} {Na No : Addr -> Prop} {pe : PEnv} {E : Value -> Shared -> Prop}
theorem Pure.skip {s s' s₁ : Shared} (P : Pure s s') (hk : ∀ b o, b < s.heap.objs.size -> s'.heap.get? b = some o -> s₁.heap.get? b = some o) (hm : Mono s' s₁) (hg : s₁.gens = s'.gens) (ho : s₁.os = s'.os) (hd : s₁.drawn = s'.drawn) : Pure s s₁ :=
  ⟨⟨fun b o _ e => hk b o (Heap.lt_size e) (Pure.keep P b o e), Nat.le_trans P.step.grow hm.1, fun _ q => q.elim⟩, fun i g e => by rw [hg]; exact P.gens i g e, fun q => by rw [hg]; exact P.bare q, ho.trans P.os, hd.trans P.drawn, Nat.le_trans (Ext.toks P) hm.2⟩
theorem foldedI {e : PySem.Expr} {p : PI} (h : chkI GL cx e p = true) : ∀ x, foldedSetIterable e env x = Pure.pure x := by
  intro x; cases e with
  | Set elts k pos => exfalso; cases p with
    | val p => unfold chkI at h; cases p <;> simp [chkE, globB] at h
    | _ => simp [chkI] at h
  | _ => rfl
def condOk (GL : List (Str × G)) (cx : Cx) (ifs : List PySem.Expr) (hasIf : Bool) (c : PE) : Bool := match ifs with
  | [] => !hasIf
  | [t] => hasIf && chkE GL cx true t c
  | _ => false
theorem EnvR.bindRV {cx' : Cx} (X : EnvR prog w h₀ cx' asg env s Na No pe) {x : Str} {i : Nat} {v : Value} {p : PV} (ho : cx'.own.contains i = false) (ht : cx'.tk = []) (r : RV prog w s.heap (fun b => Na b \/ No b) v p) : SlotR prog w cx' env s (fun b => Na b \/ No b) i v p :=
  ⟨by rw [ho]; exact r, fun h => by rw [ht] at h; cases h⟩
theorem drop_cons {α : Type} {l : List α} {k : Nat} {a : α} (h : l[k]? = some a) : l.drop k = a :: l.drop (k + 1) := by
  obtain ⟨h1, h2⟩ := List.getElem?_eq_some_iff.mp h; rw [<- h2]; exact List.drop_eq_getElem_cons h1
theorem comp_loop {s₄ : Shared} {I acc : Addr} {cenv : Env} {cx' : Cx} {pe₀ : PEnv} {fp : List Addr} {P : Nat -> Value -> Prop} {St : Nat -> Heap -> Prop}
    {sc : Scope} {x : Str} {i : Nat} {elt c : PE} {hasIf : Bool} {el it : PySem.Expr} {ifs : List PySem.Expr} {px pos : Pos} {items rs : List PV} {RR : Result -> Shared -> Prop}
    (hE : EvalP prog w h₀ GL F B elt) (hT : TrueP prog w h₀ GL F B c) (R2 : Room A (nd elt + B)) (R3 : Room A (nd c + B))
    (h3 : chkE GL cx' false el elt = true) (h4 : condOk GL cx' ifs hasIf c = true) (d2 : compF (denE F c) (denE F elt) hasIf i pe items = some rs) (hlen : items.length <= 100000)
    (W : Walks prog w A I fp [I] items.length P St) (hst : St 0 s₄.heap) (hoI : ∀ i h, St i h -> ∃ o, h.get? I = some o /\ (∀ v, o.data ≠ .cell v) /\ ∃ n, o.cls = .type n /\ goesN n = false)
    (hfp : ∀ b ∈ fp, b < cenv.locals /\ b ≠ acc) (hIa : I ≠ acc) (hIC : I < cenv.locals) (haC : acc < cenv.locals) (hsI : s.heap.objs.size <= I) (hsa : s.heap.objs.size <= acc)
    (hP : ∀ j v, j < items.length -> P j v -> ∃ p, items[j]? = some p /\ RV prog w s₄.heap (fun b => Na b \/ No b) v p)
    (X : EnvR prog w h₀ cx' [x] cenv s₄ Na No pe₀) (hpe : ∀ q, st pe₀ i q = st pe i q) (hxi : cx'.vars.lookup x = some i) (hown : cx'.own.contains i = false) (htk : cx'.tk = [])
    (hNI : Na I) (hNa : Na acc) (hcells : ∀ b0, (b0 = cenv.locals \/ cenv.cells.lookup x = some b0) -> cenv.locals <= b0) (P₀ : Pure s s₄) (hacc : s₄.heap.PlainList acc ([] : List Value).toArray)
    (hR : ∀ s' vs, Pure s s' -> s₄.heap.objs.size <= s'.heap.objs.size -> s'.heap.PlainList acc vs.toArray -> RVs prog w s'.heap (fun b => Na b \/ No b) vs rs -> (∃ m, s'.heap.Ns cenv.locals m) -> RR (.ok .next) s') :
    codeAny (model prog w) A (.compLoop (.ListComp el [⟨.Name x px, it, ifs, 0⟩] sc pos) 0 (.ref I) (.ref acc) cenv) RR s₄ := by
  refine codeAny_compLoop_tests (fun n s' => ∃ k vs ps rest pe', k <= items.length /\ n = items.length + 1 - k /\ Pure s s' /\ s₄.heap.objs.size <= s'.heap.objs.size /\ St k s'.heap /\ s'.heap.PlainList acc (List.toArray vs) /\
      RVs prog w s'.heap (fun b => Na b \/ No b) vs ps /\ compF (denE F c) (denE F elt) hasIf i pe (items.drop k) = some rest /\ ps ++ rest = rs /\ vs.length <= k /\ EnvR prog w h₀ cx' [x] cenv s' Na No pe' /\ (∀ q, st pe' i q = st pe i q) /\
      (∀ j v, j < items.length -> P j v -> ∃ p, items[j]? = some p /\ RV prog w s'.heap (fun b => Na b \/ No b) v p)) ?_ (items.length + 1)
    ⟨0, [], [], rs, pe₀, Nat.zero_le _, rfl, P₀, Nat.le_refl _, hst, hacc, .nil, by simpa using d2, rfl, Nat.le_refl _, X, hpe, hP⟩
  rintro n s' ⟨k, vs, ps, rest, pe', hk, rfl, P', hg', hst', hacc', hvs, hcomp, hrs, hvk, X', hpe', hP'⟩
  obtain ⟨o, ho, hco, _⟩ := hoI _ _ hst'; have toStep : ∀ {s₁ : Shared}, (∀ b o, b ∉ [I] -> s'.heap.get? b = some o -> s₁.heap.get? b = some o) -> Mono s' s₁ -> Step s'.heap (fun b => Na b \/ No b) s₁.heap (fun b => Na b \/ No b) := fun hkp hm =>
    ⟨fun b o hn e => hkp b o (fun q => hn (.inl (by simpa using (List.mem_singleton.mp q) ▸ hNI))) e, hm.1, fun _ q => .inl q⟩
  rcases Nat.lt_or_ge k items.length with hlt | hge
  · refine wpAny_mon (W.item k s' _ _ hlt hst' fun v h₁ tk hv hst₁ hk₁ hm => ?_); have P₁ : Pure s { s' with heap := h₁, toks := tk } := P'.skip (fun b o hb e => hk₁ b o (fun q => by rw [List.mem_singleton.mp q] at hb; exact absurd hb (Nat.not_lt.mpr hsI)) e) hm rfl rfl rfl; have S₁ := toStep hk₁ hm; have X₁ : EnvR prog w h₀ cx' [x] cenv { s' with heap := h₁, toks := tk } Na No pe' := X'.poke hNI ho hco (fun b o hb e => hk₁ b o (fun q => hb (List.mem_singleton.mp q)) e) hm.1 hm.2 id; obtain ⟨p, hp, hrv⟩ := hP' k v hlt hv; have hrv₁ := hrv.step S₁; rw [drop_cons hp] at hcomp; have acc₁ : h₁.PlainList acc (List.toArray vs) := hacc'.at fun o e => hk₁ acc o (fun q => hIa (List.mem_singleton.mp q).symm) e; have hvs₁ := hvs.step S₁; have hP₁ : ∀ j v, j < items.length -> P j v -> ∃ p, items[j]? = some p /\ RV prog w h₁ (fun b => Na b \/ No b) v p := fun j v hj hv => let ⟨p, q1, q2⟩ := hP' j v hj hv; ⟨p, q1, q2.step S₁⟩
    dsimp only
    refine wpAny_assign_Name (store_sound X₁ (List.mem_singleton_self x) hxi (X₁.bindRV (x := x) hown htk hrv₁) (fun a e h => by rw [hown] at h; cases h) (fun a e h => by rw [hown] at h; cases h) fun s₂ b0 _ hb0 hsb hgens he X₂ => ?_); rw [hpe'] at X₂; have hb0C := hcells b0 hb0; have hk₂ : ∀ b o, b < cenv.locals -> h₁.get? b = some o -> s₂.heap.get? b = some o := fun b o hb e => hsb.extBut b o (fun q => by rw [q] at hb; exact absurd hb (Nat.not_lt.mpr hb0C)) e; have S₂ : Step h₁ (fun b => Na b \/ No b) s₂.heap (fun b => Na b \/ No b) := he.step.or Na; have P₂ : Pure s s₂ := P₁.skip (fun b o hb e => hk₂ b o (Nat.lt_of_lt_of_le hb (Nat.le_trans hsI (Nat.le_of_lt hIC))) e) ⟨he.step.grow, Ext.toks he⟩ hgens he.os he.drawn; have st₂ : St (k + 1) s₂.heap := W.frame _ _ _ hst₁ fun b hb o e => hk₂ b o (hfp b hb).1 e; have acc₂ : s₂.heap.PlainList acc (List.toArray vs) := acc₁.at fun o e => hk₂ acc o haC e; have X₁' := X₂; have hacc_o : ∀ {s₅ : Shared}, s₅.heap.PlainList acc (List.toArray vs) -> ∃ o, s₅.heap.get? acc = some o /\ ∀ v, o.data ≠ .cell v := fun h => let ⟨n, e⟩ := h; ⟨_, e, fun v q => (nomatch q)⟩; have tests : ∀ (Q : Bool -> Shared -> Prop) (E : Value -> Shared -> Prop), (∀ ok s₃, Pure s₂ s₃ -> (if hasIf then denE F c (st pe i p) else some (.bool true)) = some (.bool ok) -> Q ok s₃) ->
        wpAny (model prog w) A (forIn ifs true fun c r => if r = true then do let ok <- isTrue c cenv (eval c cenv); Pure.pure (ForInStep.yield ok) else Pure.pure (ForInStep.yield r)) Q E s₂ := by
      intro Q E hQ; have hex : ∃ ok, (if hasIf then denE F c (st pe i p) else some (.bool true)) = some (.bool ok) := by
        rw [compF] at hcomp; split at hcomp
        · rename_i e; exact ⟨true, e⟩
        · rename_i e; exact ⟨false, e⟩
        · cases hcomp
      obtain ⟨ok, hok⟩ := hex; unfold condOk at h4; split at h4
      · rw [List.forIn_nil]; simp only [Bool.not_eq_true'] at h4; have hok' := hok; rw [h4] at hok'; simp only [Bool.false_eq_true, if_false, Option.some.injEq, PV.bool.injEq] at hok'; subst hok'; exact wpAny_pure (hQ true s₂ (Ext.refl _ _) hok)
      · simp only [Bool.and_eq_true] at h4; rw [List.forIn_cons]; simp only [if_true]; have hok' := hok; rw [h4.1] at hok'; simp only [if_true] at hok'; refine wpAny_bind (wpAny_bind (hT R3 X₂ h4.2 hok' fun s₃ P₃ => wpAny_pure ?_))
        dsimp only
        rw [List.forIn_nil]; exact wpAny_pure (hQ ok s₃ P₃ hok)
      · cases h4
    refine tests _ _ fun ok s₃ P₃ hok => ?_; rw [compF, hok] at hcomp; have P₃' : Pure s s₃ := P₂.trans P₃; have hstep₃ : Step h₁ (fun b => Na b \/ No b) s₃.heap (fun b => Na b \/ No b) := S₂.trans (P₃.stepAt _); have hP₃ : ∀ j v, j < items.length -> P j v -> ∃ p, items[j]? = some p /\ RV prog w s₃.heap (fun b => Na b \/ No b) v p := fun j v hj hv => let ⟨p, q1, q2⟩ := hP₁ j v hj hv; ⟨p, q1, q2.step hstep₃⟩; have st₃ : St (k + 1) s₃.heap := W.frame _ _ _ st₂ fun b hb o e => Pure.keep P₃ b o e; have acc₃ : s₃.heap.PlainList acc (List.toArray vs) := acc₂.at fun o e => Pure.keep P₃ acc o e; have X₃ := X₂.pure P₃; have hg₃ : s₄.heap.objs.size <= s₃.heap.objs.size := Nat.le_trans hg' (Nat.le_trans hm.1 (Nat.le_trans he.step.grow P₃.step.grow)); cases ok with
    | false =>
      simp only [Bool.false_eq_true, if_false]; refine ⟨items.length + 1 - (k + 1), by omega, k + 1, vs, ps, rest, st pe i p, hlt, rfl, P₃', hg₃, st₃, acc₃, (hvs₁.step S₂).step (P₃.stepAt _), hcomp, hrs, by omega, X₃, fun q => st_st, hP₃⟩
    | true =>
      simp only [if_true]; simp only at hcomp; split at hcomp
      · rename_i r rest' hr hc; injection hcomp with hcomp; subst hcomp; refine hE R2 X₃ h3 hr fun y s₅ P₅ o₅ => ?_; have X₅ := X₃.pure P₅; have acc₅ : s₅.heap.PlainList acc (List.toArray vs) := acc₃.at fun o e => Pure.keep P₅ acc o e; refine wpAny_list_append_plain acc₅ (fun h' hl' hsb' => ?_) (by simp only [List.size_toArray, sizeLine]; omega); obtain ⟨oa, hoa, hca⟩ := hacc_o acc₅; have hk₆ : ∀ b o, b ≠ acc -> s₅.heap.get? b = some o -> h'.get? b = some o := fun b o hb e => hsb'.extBut b o hb e; have X₆ : EnvR prog w h₀ cx' [x] cenv { s₅ with heap := h' } Na No (st pe i p) := X₅.poke hNa hoa hca hk₆ (Nat.le_of_eq hsb'.1.symm) (Nat.le_refl _) id; have S₆ : Step s₅.heap (fun b => Na b \/ No b) h' (fun b => Na b \/ No b) := ⟨fun b o hn e => hk₆ b o (fun q => hn (.inl (q ▸ hNa))) e, Nat.le_of_eq hsb'.1.symm, fun _ q => .inl q⟩; have P₆ : Pure s { s₅ with heap := h' } := Pure.skip (P₃'.trans P₅) (fun b o hb e => hk₆ b o (fun q => by rw [q] at hb; exact absurd hb (Nat.not_lt.mpr hsa)) e) ⟨Nat.le_of_eq hsb'.1.symm, Nat.le_refl _⟩ rfl rfl rfl; refine ⟨items.length + 1 - (k + 1), by omega, k + 1, vs ++ [y], ps ++ [r], rest', st pe i p, hlt, rfl, P₆, ?_, ?_, ?_, ?_, hc, by rw [<- hrs]; simp, by simp; omega, X₆, fun q => st_st, fun j v hj hv => ?_⟩
        · exact Nat.le_trans hg₃ (Nat.le_trans P₅.step.grow (Nat.le_of_eq hsb'.1.symm))
        · refine W.frame _ _ _ st₃ fun b hb o e => hk₆ b o (hfp b hb).2 (Pure.keep P₅ b o e)
        · simpa using hl'
        · refine RVs.append ((((hvs₁.step S₂).step (P₃.stepAt _)).step (P₅.stepAt _)).step S₆) (RVs.one ((o₅.f rfl).step S₆))
        · obtain ⟨p, q1, q2⟩ := hP₃ j v hj hv; exact ⟨p, q1, (q2.step (P₅.stepAt _)).step S₆⟩
      · cases hcomp
  · have hkl : k = items.length := Nat.le_antisymm hk hge; subst hkl; refine wpAny_mon (W.done s' _ _ hst' fun h₁ tk hk₁ hm => ?_); have P₁ : Pure s { s' with heap := h₁, toks := tk } := P'.skip (fun b o hb e => hk₁ b o (fun q => by rw [List.mem_singleton.mp q] at hb; exact absurd hb (Nat.not_lt.mpr hsI)) e) hm rfl rfl rfl; have S₁ := toStep hk₁ hm; rw [List.drop_length] at hcomp; simp only [compF, Option.some.injEq] at hcomp; subst hcomp; rw [List.append_nil] at hrs; subst hrs; have X₁ : EnvR prog w h₀ cx' [x] cenv { s' with heap := h₁, toks := tk } Na No pe' := X'.poke hNI ho hco (fun b o hb e => hk₁ b o (fun q => hb (List.mem_singleton.mp q)) e) hm.1 hm.2 id; exact hR _ vs P₁ (Nat.le_trans hg' hm.1) (hacc'.at fun o e => hk₁ acc o (fun q => hIa (List.mem_singleton.mp q).symm) e) (hvs.step S₁) X₁.ns
theorem comp_core {sc : Scope} {x : Str} {i : Nat} {elt c : PE} {src : PI} {hasIf : Bool} {el it : PySem.Expr} {ifs : List PySem.Expr} {px pos cpos : Pos} {items rs : List PV} {use : Option (Value -> Sem Unit)} {Q : Value -> Shared -> Prop}
    (hE : EvalP prog w h₀ GL F B elt) (hT : TrueP prog w h₀ GL F B c) (hI : IterP prog w h₀ GL F B src)
    (R : Room A (nd (.comp elt i src hasIf c) + B)) (X : EnvR prog w h₀ cx asg env s Na No pe) (h1 : chkI GL cx it src = true) (h2 : compOk cx sc x i = true) (h3 : chkE GL (compCx cx sc.names x i) false el elt = true)
    (h4 : condOk GL (compCx cx sc.names x i) ifs hasIf c = true) (d1 : denI F src pe = some items) (d2 : compF (denE F c) (denE F elt) hasIf i pe items = some rs)
    (hK : ∀ acc C s' vs, Pure s s' -> s.heap.objs.size <= acc -> s.heap.objs.size <= C -> acc ≠ C -> C < s'.heap.objs.size -> acc < s'.heap.objs.size -> s'.heap.PlainList acc vs.toArray -> RVs prog w s'.heap (fun b => (Na b \/ No b) \/ b = acc \/ b = C) vs rs -> (∃ m, s'.heap.Ns C m) ->
      compPost (model prog w) A E use Q (.ref acc) C (.ok .next) s') :
    wpAny (model prog w) A (comprehension (.ListComp el [⟨.Name x px, it, ifs, 0⟩] sc pos) sc env cpos (newList []) false (eval it env) use) Q E s := by
  have R1 : Room A (ndi src + B) := R.le (by simp only [nd]; omega); have R2 : Room A (nd elt + B) := R.le (by simp only [nd]; omega); have R3 : Room A (nd c + B) := R.le (by simp only [nd]; omega); obtain ⟨hk, hnd, hx, hall, hown⟩ := compOk_inv h2; refine wpAny_comprehension_free (cl := clo env sc.names []) rfl (foldedI h1) (closureFor_clo fun n hn => ?_) hk (fun y hy hl => nodup_lookup hnd (by rw [<- hl]; exact hy)) ?_
  · rcases hall n _ hn with h | ⟨h, _⟩ | h | ⟨_, _, _, h⟩
    · cases h
    · cases h
    · cases h
    · obtain ⟨_, c, _, h, _⟩ := X.cl n h; exact ⟨c, h⟩
  refine hI R1 X h1 d1 fun I s₂ P₂ hI1 hI2 hlen hit => wpAny_newList ?_; obtain ⟨fp, P, St, W, hst, hcI, hfp, hP⟩ := hit; refine compEnv_sound ?_; have P₃ : Pure s { s₂ with heap := s₂.heap.push { cls := .type "list", data := .seq ([] : List Value).toArray } } := P₂.trans (Pure.push s₂ _ (Nat.le_refl _)); have hs3 : (s₂.heap.push { cls := .type "list", data := .seq ([] : List Value).toArray }).objs.size = s₂.heap.objs.size + 1 := by simp [Heap.size_push]
  have hacc : s.heap.objs.size <= s₂.heap.objs.size := P₂.step.grow; have X₃ : EnvR prog w h₀ cx asg env { s₂ with heap := s₂.heap.push { cls := .type "list", data := .seq ([] : List Value).toArray } } (fun b => Na b \/ b = s₂.heap.objs.size \/ b = I) No pe := by
    refine X.wideA P₃ (fun b q => .inl q) (fun b q => ?_) (fun b q => ?_)
    · rcases q with q | q | q
      · exact .inl q
      · exact .inr (q ▸ hacc)
      · exact .inr (q ▸ hI1)
    · show b < (s₂.heap.push _).objs.size; rw [hs3]; rcases q with q | q | q
      · exact Nat.lt_succ_of_lt (Nat.lt_of_lt_of_le (X.base.low b (.inl q)) hacc)
      · rw [q]; exact Nat.lt_succ_self _
      · rw [q]; exact Nat.lt_succ_of_lt hI2
  have X₄ := comp_env X₃ h2; have hC : s₂.heap.objs.size < (s₂.heap.push { cls := .type "list", data := .seq ([] : List Value).toArray }).objs.size := by rw [hs3]; exact Nat.lt_succ_self _
  have P₄ := cHeap_pure sc ({ s₂ with heap := s₂.heap.push { cls := .type "list", data := .seq ([] : List Value).toArray } } : Shared); have hlow := X.low; have W' := W A R.hh; have hxl : (compCx cx sc.names x i).vars.lookup x = some i := by simp [compCx]
  have hIlt : I < s₂.heap.objs.size := hI2; have hxcell : ∀ b0, (cEnv sc env (s₂.heap.push { cls := .type "list", data := .seq ([] : List Value).toArray }).objs.size).cells.lookup x = some b0 -> (s₂.heap.push { cls := .type "list", data := .seq ([] : List Value).toArray }).objs.size <= b0 := by
    intro b0 hb
    by_cases hc : (x, NameKind.cell) ∈ sc.names
    · have := cellsFrom_some (h := (s₂.heap.push { cls := .type "list", data := .seq ([] : List Value).toArray }).push { cls := .type "dict", data := .dict #[] }) (acc := clo env sc.names []) hnd hc; obtain ⟨c', q1, q2, _⟩ := this; have e : ((s₂.heap.push { cls := .type "list", data := .seq ([] : List Value).toArray }).push { cls := .type "dict", data := .dict #[] }).objs.size = (s₂.heap.push { cls := .type "list", data := .seq ([] : List Value).toArray }).objs.size + 1 := by simp [Heap.size_push]
      rw [e] at q1 q2; change (cellsFrom _ _ _).lookup x = some b0 at hb; rw [q1] at hb; cases hb; exact Nat.le_of_succ_le q2
    · have hl : (x, NameKind.local) ∈ sc.names := hx.resolve_right hc; exfalso; change (cellsFrom _ _ _).lookup x = some b0 at hb; rw [cellsFrom_none hc, clo_none (fun hf => by
        have q1 := nodup_lookup hnd hl; have q2 := nodup_lookup hnd hf; rw [q1] at q2; cases q2)] at hb
      cases hb
  have hN' : ∀ b, Na b \/ No b -> b < s₂.heap.objs.size := fun b q => Nat.lt_of_lt_of_le (hlow b q) hacc; have key := comp_loop (s := s) (cenv := cEnv sc env (s₂.heap.push { cls := .type "list", data := .seq ([] : List Value).toArray }).objs.size) (acc := s₂.heap.objs.size) (I := I) (sc := sc) (px := px) (pos := pos) (it := it)
    (RR := compPost (model prog w) A E use Q (.ref s₂.heap.objs.size) (s₂.heap.push { cls := .type "list", data := .seq ([] : List Value).toArray }).objs.size)
    hE hT R2 R3 h3 h4 d2 hlen W' (W'.frame _ _ _ hst fun b _ o e => Pure.keep P₄ _ _ (Heap.get?_push_of_some _ e)) hcI
    (fun b hb => ?_) (Nat.ne_of_lt hI2) (Nat.lt_trans hI2 hC) hC hI1 hacc (fun j v hj hv => ?_) X₄ (fun q => st_clr) hxl hown rfl (.inr (.inr rfl)) (.inr (.inl rfl)) (fun b0 hb0 => ?_) (P₃.trans P₄)
    ⟨0, Pure.keep P₄ _ _ (Heap.get?_push_size _ rfl)⟩ (fun s' vs P' hg hl hr hns => ?_)
  · exact codeAny_compStart_list key (W'.self 0 _ _ _ (W'.frame _ _ _ hst fun b _ o e => Pure.keep P₄ _ _ (Heap.get?_push_of_some _ e)) key)
  · rcases hfp b hb with rfl | ⟨_, hb2⟩
    · exact ⟨Nat.lt_trans hI2 hC, Nat.ne_of_lt hI2⟩
    · exact ⟨Nat.lt_trans hb2 hC, Nat.ne_of_lt hb2⟩
  · obtain ⟨p, q1, q2⟩ := hP j v hj hv; refine ⟨p, q1, RV.step (h := s₂.heap) ⟨fun b o _ e => Pure.keep P₄ _ _ (Heap.get?_push_of_some _ e), Nat.le_trans (Nat.le_of_lt hC) P₄.step.grow, fun b hb => ?_⟩ q2⟩; rcases hb with (hb | hb | hb) | (hb | hb)
    · exact .inl (.inl (.inl hb))
    · exact .inr (Nat.le_of_eq hb.symm)
    · exact .inl (.inr hb)
    · exact .inl (.inl (.inr hb))
    · exact .inr (Nat.le_of_lt (Nat.lt_of_lt_of_le hC hb.1))
  · rcases hb0 with rfl | hb0
    · exact Nat.le_refl _
    · exact hxcell b0 hb0
  · refine hK s₂.heap.objs.size (s₂.heap.push { cls := .type "list", data := .seq ([] : List Value).toArray }).objs.size s' vs P' hacc (Nat.le_trans hacc (Nat.le_of_lt hC)) (Nat.ne_of_lt hC) ?_ ?_ hl ?_ hns
    · exact Nat.lt_of_lt_of_le (cHeap_lt sc _) hg
    · exact Nat.lt_trans hC (Nat.lt_of_lt_of_le (cHeap_lt sc _) hg)
    · refine RVs.weak' (fun b hb => ?_) hr; rcases hb with (hb | hb) | hb | hb
      · exact .inl (.inl hb)
      · exact .inr (.inl hb)
      · exact .inl (.inr (.inl hb))
      · exact .inr (.inr ⟨Nat.le_of_eq hb.symm, hb ▸ cHeap_lt sc _⟩)
theorem eval_comp {elt c : PE} {i : Nat} {src : PI} {hasIf : Bool} (hE : EvalP prog w h₀ GL F B elt) (hT : TrueP prog w h₀ GL F B c) (hI : IterP prog w h₀ GL F B src) : EvalP prog w h₀ GL F B (.comp elt i src hasIf c) := by
  intro A cx asg env s Na No pe b e r Q E R X hc hd hQ; unfold chkE at hc; split at hc
  · rename_i el x px it ifs sc pos; simp only [Bool.and_eq_true] at hc; obtain ⟨⟨⟨h1, h2⟩, h3⟩, h4⟩ := hc; simp only [denE] at hd; split at hd
    · rename_i items d1; obtain ⟨rs, d2, rfl⟩ := Option.map_eq_some_iff.mp hd; rw [PySem.eval_ListComp]; refine comp_core (use := none) hE hT hI R X h1 h2 h3 h4 d1 d2 fun acc C s' vs P ha hC hne hClt halt hl hr hns => ?_; obtain ⟨m, hm⟩ := hns; refine ⟨m, hm, fun h' hsb => ?_⟩; have P' : Pure s { s' with heap := h' } := P.skip (fun b o hb e => hsb.extBut b o (fun q => by rw [q] at hb; exact absurd hb (Nat.not_lt.mpr hC)) e) ⟨Nat.le_of_eq hsb.1.symm, Nat.le_refl _⟩ rfl rfl rfl; have hl' : h'.PlainList acc vs.toArray := hl.at fun o e => hsb.extBut _ _ hne e; have hr' : RVs prog w h' (fun b => (Na b \/ No b) \/ b = acc \/ b = C) vs rs := hr.step ⟨fun b o hn e => hsb.extBut b o (fun q => hn (.inr (.inr q))) e, Nat.le_of_eq hsb.1.symm, fun _ q => .inl q⟩; have hnacc : ¬ (Na acc \/ No acc) := fun q => absurd (X.low acc q) (Nat.not_lt.mpr ha); have hrv : RV prog w h' (fun b => Na b \/ No b) (.ref acc) (.lst rs) := .lst hnacc hl' (RVs.weak (fun b q => .inl q) hr'); refine hQ _ _ P' { t := hrv.rt, a := fun _ => hrv.weak fun _ q => .inl q, f := fun _ => hrv, fresh := fun _ l e => ?_, tok := fun q => (nomatch q) }; cases e; exact ⟨acc, vs, rfl, ha, hl', RVs.weak (fun b q => q.elim .inl fun q => .inr (.inl q)) hr'⟩
    · cases hd
  · cases hc
mutual
theorem evalTrue (hB : 3 <= B) (GK : Glo prog w h₀ GL fa) (FK : FunOK prog w h₀ F fa B) : ∀ p : PE, EvalP prog w h₀ GL F B p /\ TrueP prog w h₀ GL F B p
  | .cst c => ⟨@eval_cst _ _ _ _ _ _ c, true_plain rfl (@eval_cst _ _ _ _ _ _ c)⟩
  | .gcst c => ⟨@eval_gcst _ _ _ _ _ _ _ GK c, true_plain rfl (@eval_gcst _ _ _ _ _ _ _ GK c)⟩
  | .var i => ⟨@eval_var _ _ _ _ _ _ i, true_plain rfl (@eval_var _ _ _ _ _ _ i)⟩
  | .bin op a b => ⟨@eval_bin _ _ _ _ _ _ _ _ _ (evalTrue hB GK FK a).1 (evalTrue hB GK FK b).1, true_plain rfl (@eval_bin _ _ _ _ _ _ _ _ _ (evalTrue hB GK FK a).1 (evalTrue hB GK FK b).1)⟩
  | .neg a => ⟨@eval_neg _ _ _ _ _ _ _ (evalTrue hB GK FK a).1, true_plain rfl (@eval_neg _ _ _ _ _ _ _ (evalTrue hB GK FK a).1)⟩
  | .not a => ⟨@eval_not _ _ _ _ _ _ _ (evalTrue hB GK FK a).1, @true_not _ _ _ _ _ _ _ (evalTrue hB GK FK a).2⟩
  | .and a b => ⟨@eval_and _ _ _ _ _ _ _ _ (evalTrue hB GK FK a).1 (evalTrue hB GK FK b).1, @true_and _ _ _ _ _ _ _ _ (evalTrue hB GK FK a).2 (evalTrue hB GK FK b).2⟩
  | .or a b => ⟨@eval_or _ _ _ _ _ _ _ _ (evalTrue hB GK FK a).1 (evalTrue hB GK FK b).1, @true_or _ _ _ _ _ _ _ _ (evalTrue hB GK FK a).2 (evalTrue hB GK FK b).2⟩
  | .ite t a b => ⟨@eval_ite _ _ _ _ _ _ _ _ _ (evalTrue hB GK FK t).2 (evalTrue hB GK FK a).1 (evalTrue hB GK FK b).1, @true_ite _ _ _ _ _ _ _ _ _ (evalTrue hB GK FK t).2 (evalTrue hB GK FK a).2 (evalTrue hB GK FK b).2⟩
  | .cmp op a b => ⟨@eval_cmp _ _ _ _ _ _ _ _ _ _ hB GK (evalTrue hB GK FK a).1 (evalTrue hB GK FK b).1, @true_cmp _ _ _ _ _ _ _ _ _ _ hB GK (evalTrue hB GK FK a).1 (evalTrue hB GK FK b).1⟩
  | .cmp2 op op' a b c => ⟨@eval_cmp2 _ _ _ _ _ _ _ _ _ _ _ _ hB GK (evalTrue hB GK FK a).1 (evalTrue hB GK FK b).1 (evalTrue hB GK FK c).1, @true_cmp2 _ _ _ _ _ _ _ _ _ _ _ _ hB GK (evalTrue hB GK FK a).1 (evalTrue hB GK FK b).1 (evalTrue hB GK FK c).1⟩
  | .sub a i => ⟨@eval_sub _ _ _ _ _ _ _ _ (evalTrue hB GK FK a).1 (evalTrue hB GK FK i).1, true_plain rfl (@eval_sub _ _ _ _ _ _ _ _ (evalTrue hB GK FK a).1 (evalTrue hB GK FK i).1)⟩
  | .slc a l h s => ⟨@eval_slc _ _ _ _ _ _ _ _ _ _ (evalTrue hB GK FK a).1 (evalTrue hB GK FK l).1 (evalTrue hB GK FK h).1 (evalTrue hB GK FK s).1, true_plain rfl (@eval_slc _ _ _ _ _ _ _ _ _ _ (evalTrue hB GK FK a).1 (evalTrue hB GK FK l).1 (evalTrue hB GK FK h).1 (evalTrue hB GK FK s).1)⟩
  | .list es => ⟨@eval_list _ _ _ _ _ _ _ (allTrueE hB GK FK es), true_plain rfl (@eval_list _ _ _ _ _ _ _ (allTrueE hB GK FK es))⟩
  | .tup es => ⟨@eval_tup _ _ _ _ _ _ _ (allTrueE hB GK FK es), true_plain rfl (@eval_tup _ _ _ _ _ _ _ (allTrueE hB GK FK es))⟩
  | .dict es => ⟨@eval_dict _ _ _ _ _ _ _ GK _ (allTrueE hB GK FK es), true_plain rfl (@eval_dict _ _ _ _ _ _ _ GK _ (allTrueE hB GK FK es))⟩
  | .comp elt i src hasIf c => ⟨@eval_comp _ _ _ _ _ _ _ _ _ _ _ (evalTrue hB GK FK elt).1 (evalTrue hB GK FK c).2 (iterAll hB GK FK src), true_plain rfl (@eval_comp _ _ _ _ _ _ _ _ _ _ _ (evalTrue hB GK FK elt).1 (evalTrue hB GK FK c).2 (iterAll hB GK FK src))⟩
  | .call f es => ⟨@eval_call _ _ _ _ _ _ _ GK FK _ _ (allTrueE hB GK FK es), true_plain rfl (@eval_call _ _ _ _ _ _ _ GK FK _ _ (allTrueE hB GK FK es))⟩
  | .callB f es => ⟨@eval_callB _ _ _ _ _ _ _ GK FK _ _ (allTrueE hB GK FK es), true_plain rfl (@eval_callB _ _ _ _ _ _ _ GK FK _ _ (allTrueE hB GK FK es))⟩
  | .bi f es => ⟨@eval_bi _ _ _ _ _ _ _ GK hB _ _ (allTrueE hB GK FK es), true_plain rfl (@eval_bi _ _ _ _ _ _ _ GK hB _ _ (allTrueE hB GK FK es))⟩
  | .me f o es => ⟨@eval_me _ _ _ _ _ _ _ GK hB _ _ _ (evalTrue hB GK FK o).1 (allTrueE hB GK FK es), true_plain rfl (@eval_me _ _ _ _ _ _ _ GK hB _ _ _ (evalTrue hB GK FK o).1 (allTrueE hB GK FK es))⟩
  | .repl o y t i z => ⟨@eval_repl _ _ _ _ _ _ _ GK _ _ _ _ _ (evalTrue hB GK FK o).1 (evalTrue hB GK FK t).2, true_plain rfl (@eval_repl _ _ _ _ _ _ _ GK _ _ _ _ _ (evalTrue hB GK FK o).1 (evalTrue hB GK FK t).2)⟩
theorem allTrueE (hB : 3 <= B) (GK : Glo prog w h₀ GL fa) (FK : FunOK prog w h₀ F fa B) : ∀ ps : PEs, AllE prog w h₀ GL F B ps
  | .nil => trivial
  | .cons p ps => ⟨evalTrue hB GK FK p, allTrueE hB GK FK ps⟩
theorem iterAll (hB : 3 <= B) (GK : Glo prog w h₀ GL fa) (FK : FunOK prog w h₀ F fa B) : ∀ p : PI, IterP prog w h₀ GL F B p
  | .val e => iter_val (evalTrue hB GK FK e).1
  | .rng1 e => iter_rng1 GK (evalTrue hB GK FK e).1
  | .rng2 e f => iter_rng2 GK (evalTrue hB GK FK e).1 (evalTrue hB GK FK f).1
  | .rng3 e f => iter_rng3 GK (evalTrue hB GK FK e).1 (evalTrue hB GK FK f).1
end
end
end Mine
end
section
open PySem PySem.W PyProof.Rows
namespace Mine
def isComp (e : PySem.Expr) : Bool := match e with | .ListComp .. => true | _ => false
def isTupD (e : PySem.Expr) : Bool := match e with | .Tuple .. => true | _ => false
section
variable (GL : List (Str × G))
def chkN (cx : Cx) (asg : List Str) (e : PySem.Expr) (i : Nat) : Bool := match e with
  | .Name x _ => cx.vars.lookup x == some i && asg.contains x && !cx.own.contains i && !cx.tk.contains i
  | _ => false
def chkNs (cx : Cx) (asg : List Str) : List PySem.Expr -> List Nat -> Bool
  | [], [] => true
  | e :: es, i :: is => chkN cx asg e i && chkNs cx asg es is
  | _, _ => false
def nodupN : List Nat -> Bool
  | [] => true
  | a :: l => !l.contains a && nodupN l
def chkT (cx : Cx) (asg : List Str) (e : PySem.Expr) (ts : List Nat) : Bool := match ts with
  | [i] => chkN cx asg e i
  | _ => match e with
    | .Tuple es _ _ => chkNs cx asg es ts && decide (2 <= ts.length) && nodupN ts
    | _ => false
def orderOk (e : PySem.Expr) : Bool := match e with
  | .Tuple vs _ _ => vs.all (foldedForSure 8) || !vs.all (constantsAlone 8)
  | _ => true
def ownV (cx : Cx) (x : Str) (i : Nat) : Bool := cx.vars.lookup x == some i && cx.own.contains i && notDebug x
mutual
def chkS (cx : Cx) (asg : List Str) : Stmt -> PS -> Bool
  | s, .asg i e => match s with
    | .Assign [.Name x _] v _ => cx.vars.lookup x == some i && asg.contains x && !cx.own.contains i && chkE GL cx false v e && (!cx.tk.contains i || tokP e)
    | _ => false
  | s, .asgO i e => match s with
    | .Assign [.Name x _] v _ => cx.vars.lookup x == some i && asg.contains x && cx.own.contains i && chkE GL cx false v e && !cx.tk.contains i && freshP e
    | _ => false
  | s, .newD i => match s with
    | .Assign [.Name x _] (.Dict [] [] _) _ => cx.vars.lookup x == some i && asg.contains x && cx.own.contains i && !cx.tk.contains i
    | _ => false
  | s, .asgT ts e => match s with
    | .Assign [.Tuple es k p] v _ => chkT cx asg (.Tuple es k p) ts && decide (2 <= ts.length) && chkE GL cx false v e && orderOk v
    | _ => false
  | s, .aug i op e => match s with
    | .AugAssign (.Name x _) o v _ => o == op && cx.vars.lookup x == some i && asg.contains x && !cx.own.contains i && !cx.tk.contains i && notDebug x && chkE GL cx true v e
    | _ => false
  | s, .ext i e => match s with
    | .AugAssign (.Name x _) .Add v _ => ownV cx x i && asg.contains x && !cx.tk.contains i && chkE GL cx false v e && freshP e
    | _ => false
  | s, .app i e => match s with
    | .Expr (.Call (.Attribute (.Name x _) n apos) [a] [] pos) _ => n == ("append" : Str) && ownV cx x i && chkE GL cx false a e && apos.endLine == pos.line && notStar a
    | _ => false
  | s, .pop j i => match s with
    | .Assign [.Name y _] (.Call (.Attribute (.Name x _) n apos) [] [] pos) _ => n == ("pop" : Str) && ownV cx x i && apos.endLine == pos.line && cx.vars.lookup y == some j && asg.contains y && !cx.own.contains j && !cx.tk.contains j
    | _ => false
  | s, .setI i k v => match s with
    | .Assign [.Subscript (.Name x _) ke _] ve _ => ownV cx x i && chkE GL cx true ke k && chkE GL cx true ve v
    | _ => false
  | s, .ite t a b => match s with
    | .If te bs os _ => chkE GL cx true te t && chkSs cx asg bs a && chkSs cx asg os b
    | _ => false
  | s, .for ts src body => match s with
    | .For tgt it bs [] _ => chkT cx asg tgt ts && chkI GL cx it src && chkSs cx asg bs body
    | _ => false
  | s, .esc ts e body => match s with
    | .For tgt (.Call g [a] [] _) bs [] _ => chkT cx asg tgt ts && globB GL cx g isGenG && notStar a && chkE GL cx true a e && chkSs cx asg bs body
    | _ => false
  | s, .while n t body => match s with
    | .While te bs [] _ => chkE GL cx true te t && chkSs cx asg bs body
    | _ => false
  | s, .ret e => match s with
    | .Return (some v) _ => chkE GL cx true v e
    | _ => false
  | s, .brk => match s with
    | .Break _ => true
    | _ => false
def chkSs (cx : Cx) (asg : List Str) : List Stmt -> PSs -> Bool
  | ss, .nil => ss.isEmpty
  | ss, .cons p ps => match ss with
    | s :: ss => chkS cx asg s p && chkSs cx asg ss ps
    | [] => false
end
end
mutual
def ns : PS -> Nat
  | .asg _ e | .asgO _ e | .asgT _ e | .aug _ _ e | .ext _ e | .app _ e | .ret e => nd e
  | .newD _ | .pop _ _ | .brk => 0
  | .setI _ k v => max (nd k) (nd v)
  | .ite t a b => max (nd t) (max (nss a) (nss b)) + 1
  | .for _ src b => max (ndi src) (nss b) + 1
  | .esc _ e b => max (nd e) (nss b) + 12
  | .while _ t b => max (nd t) (nss b) + 1
def nss : PSs -> Nat
  | .nil => 0
  | .cons s ss => max (ns s) (nss ss)
end
inductive FlR (prog : Program) (w : World) (h : Heap) (Na : Addr -> Prop) : Fl -> Flow -> Prop
  | next : FlR prog w h Na .next .next
  | brk : FlR prog w h Na .brk .brk
  | ret {p : PV} {v : Value} : RV prog w h Na v p -> FlR prog w h Na (.ret p) (.ret v)
section
variable (prog : Program) (w : World) (h₀ : Heap) (GL : List (Str × G)) (F : Nat -> List PV -> Option PV) (fa : Nat -> Addr) (B : Nat)
def ExecP (p : PS) : Prop := ∀ {A : Around} {cx : Cx} {asg : List Str} {env : Env} {s : Shared} {Na No : Addr -> Prop} {pe pe' : PEnv} {fl : Fl} {st : Stmt} {Q : Flow -> Shared -> Prop} {E : Value -> Shared -> Prop},
  cx.top = true -> Room A (ns p + B) -> EnvR prog w h₀ cx asg env s Na No pe -> chkS GL cx asg st p = true -> denS F p pe = some (pe', fl) ->
  (∀ f s' No', Ext s No s' No' -> EnvR prog w h₀ cx asg env s' Na No' pe' -> FlR prog w s'.heap Na fl f -> Q f s') -> wpAny (model prog w) A (exec st env) Q E s
def ExecsP (p : PSs) : Prop := ∀ {A : Around} {cx : Cx} {asg : List Str} {env : Env} {s : Shared} {Na No : Addr -> Prop} {pe pe' : PEnv} {fl : Fl} {st : List Stmt} {Q : Flow -> Shared -> Prop} {E : Value -> Shared -> Prop},
  cx.top = true -> Room A (nss p + B) -> EnvR prog w h₀ cx asg env s Na No pe -> chkSs GL cx asg st p = true -> denSs F p pe = some (pe', fl) ->
  (∀ f s' No', Ext s No s' No' -> EnvR prog w h₀ cx asg env s' Na No' pe' -> FlR prog w s'.heap Na fl f -> Q f s') -> wpAny (model prog w) A (execs st env) Q E s
end
section
variable {prog : Program} {w : World} {h₀ : Heap} {GL : List (Str × G)} {F : Nat -> List PV -> Option PV} {fa : Nat -> Addr} {B : Nat}
variable {A : Around} {cx : Cx} {asg : List Str} {env : Env} {s : Shared} {Na No : Addr -> Prop} {pe : PEnv} {E : Value -> Shared -> Prop}
theorem swapsWith_false {e : PySem.Expr} {p : PE} {b : Bool} {t : Option PySem.Expr} {l : Nat} (h : chkE GL cx b e p = true) (hc : isComp e = false) : swapsWith e t l env = Pure.pure false := by
  cases e with
  | ListComp => cases hc
  | SetComp => exfalso; cases p <;> simp [chkE, globB] at h
  | DictComp => exfalso; cases p <;> simp [chkE, globB] at h
  | _ => rfl
theorem swapsWith_comp {el : PySem.Expr} {gens : List Comprehension} {sc : Scope} {pos px : Pos} {x : Str} {l : Nat} : ∃ b, swapsWith (.ListComp el gens sc pos) (some (.Name x px)) l env = Pure.pure b := ⟨_, rfl⟩
theorem Pure.toExt {No No' : Addr -> Prop} {s s' : Shared} (P : Pure s s') (h : ∀ b, No' b -> No b \/ s.heap.objs.size <= b) : Ext s No s' No' :=
  ⟨⟨fun b o _ e => Pure.keep P b o e, P.step.grow, h⟩, P.gens, P.bare, P.os, P.drawn, Ext.toks P⟩
theorem Ns.obj {h : Heap} {C : Addr} {m : Str -> Option Value} (n : h.Ns C m) : ∃ o, h.get? C = some o /\ ∀ v, o.data ≠ .cell v := by
  obtain ⟨o, es, ep, h1, h2, _⟩ := n; exact ⟨o, h1, fun v e => by rw [h2] at e; cases e⟩
theorem comp_used {e : PE} {i : Nat} {x : Str} {px pos : Pos} {v : PySem.Expr} {p : PV} {Q : Flow -> Shared -> Prop} (hE : ∀ p, EvalP prog w h₀ GL F B p) (hT : ∀ p, TrueP prog w h₀ GL F B p) (hI : ∀ p, IterP prog w h₀ GL F B p)
    (R : Room A (nd e + B)) (X : EnvR prog w h₀ cx asg env s Na No pe) (hc : chkE GL cx false v e = true) (hv : isComp v = true) (hd : denE F e pe = some p) (hi : cx.vars.lookup x = some i) (hx : x ∈ asg) (htk : cx.tk.contains i = false)
    (hsw : swapsWith v (some (.Name x px)) pos.line env = Pure.pure true)
    (hQ : ∀ s' No', Ext s No s' No' -> EnvR prog w h₀ cx asg env s' Na No' (st pe i p) -> Q .next s') : wpAny (model prog w) A (exec (.Assign [.Name x px] v pos) env) Q E s := by
  rw [exec_Assign_Name_used _ _ _ _ hsw]; cases v <;> simp [isComp] at hv; rename_i el gens sc cpos; have he : ∃ elt tg src hasIf c, e = .comp elt tg src hasIf c := by
    cases e <;> first | exact ⟨_, _, _, _, _, rfl⟩ | (exfalso; simp [chkE, globB] at hc)
  obtain ⟨elt, tg, src, hasIf, c, rfl⟩ := he; unfold chkE at hc; split at hc
  · rename_i el' y py it ifs sc' cpos' heq; injection heq with e1 e2 e3 e4; subst e1 e2 e3 e4; simp only [Bool.and_eq_true] at hc; obtain ⟨⟨⟨h1, h2⟩, h3⟩, h4⟩ := hc; simp only [denE] at hd; split at hd
    · rename_i items d1; obtain ⟨rs, d2, rfl⟩ := Option.map_eq_some_iff.mp hd; refine wpAny_bind (wpAny_standAt (wpAny_bind ?_)); show wpAny _ _ (do let _ <- comprehension (.ListComp el [⟨.Name y py, it, ifs, 0⟩] sc cpos) sc env (firstIterPos [⟨.Name y py, it, ifs, 0⟩] cpos) (newList []) false (eval it env) (some (assign (.Name x px) env)); Pure.pure PUnit.unit) _ E s; refine wpAny_bind (comp_core (use := some (assign (.Name x px) env)) (Q := fun _ s' => wpAny (model prog w) A (Pure.pure PUnit.unit) (fun _ s' => wpAny (model prog w) A (Pure.pure Flow.next) Q E s') E s') (hE elt) (hT c) (hI src) R X h1 h2 h3 h4 d1 d2 fun acc C s' vs P ha hC hne hClt halt hl hr hns => ?_); obtain ⟨mC, hmC⟩ := hns; have hlow := X.low; have X' : EnvR prog w h₀ cx asg env s' (fun b => Na b \/ b = C) (fun b => No b \/ (cx.own.contains i = true /\ b = acc)) pe := by
        refine X.grow P (fun b q => .inl q) (fun b q => q.elim .inl fun q => .inr (by rw [q]; exact hC)) (fun b q => ?_) (fun b q => .inl q) (fun b q => q.elim .inl fun q => .inr (by rw [q.2]; exact ha)) (fun b q => ?_) (fun b q1 q2 => ?_)
        · rcases q with q | q
          · exact Nat.lt_of_lt_of_le (hlow b (.inl q)) P.step.grow
          · exact q ▸ hClt
        · rcases q with q | q
          · exact Nat.lt_of_lt_of_le (hlow b (.inr q)) P.step.grow
          · exact q.2 ▸ halt
        · rcases q1 with q1 | ⟨_, q1⟩ <;> rcases q2 with q2 | q2
          · exact X.disj b q1 q2
          · exact absurd (hlow b (.inr q1)) (Nat.not_lt.mpr (q2 ▸ hC))
          · exact absurd (hlow b (.inl q2)) (Nat.not_lt.mpr (q1 ▸ ha))
          · exact hne (q1.symm.trans q2)
      have hnacc : ¬ (Na acc \/ No acc) := fun q => absurd (hlow acc q) (Nat.not_lt.mpr ha); have slot : SlotR prog w cx env s' (fun b => (Na b \/ b = C) \/ (No b \/ (cx.own.contains i = true /\ b = acc))) i (.ref acc) (.lst rs) := by
        refine ⟨?_, fun hk => by rw [htk] at hk; cases hk⟩
        by_cases ho : cx.own.contains i = true
        · rw [if_pos ho]; refine ⟨acc, rfl, .inr (.inr ⟨ho, rfl⟩), ?_, vs, hl, RVs.weak' (fun b q => ?_) hr⟩
          · exact Nat.ne_of_gt (Nat.lt_of_lt_of_le (X.base.low _ (.inr X.noL)) ha)
          · rcases q with (q | q) | (q | q)
            · exact .inl (.inl q)
            · exact .inr (.inr q)
            · exact .inl (.inr q)
            · exact .inr (.inl q.2)
        · rw [if_neg ho]; refine .lst (fun q => ?_) hl (RVs.weak' (fun b q => ?_) hr)
          · rcases q with (q | q) | (q | q)
            · exact hnacc (.inl q)
            · exact hne q
            · exact hnacc (.inr q)
            · exact ho q.1
          · rcases q with (q | q) | (q | q)
            · exact .inl (.inl q)
            · exact .inr (.inr q)
            · exact .inl (.inr q)
            · exact absurd q.1 ho
      refine wpAny_assign_Name (store_sound X' hx hi slot (fun a ea ho => ?_) (fun a ea ho y' j hj hji hs hoj hb => ?_) fun s₂ b0 hb0 _ hsb hgens hext X₂ => ?_)
      · cases ea; exact .inr ⟨ho, rfl⟩
      · cases ea; have : BindAt env s.heap y' (.ref acc) := by
          obtain ⟨q, hq⟩ := Option.isSome_iff_exists.mp hs; exact X.bind_back P hj hq hb
        exact absurd (X.lowO acc (X.turns y' j acc hj hoj hs this)) (Nat.not_lt.mpr ha)
      · have hbC : C ≠ b0 := by
          intro e; subst e; rcases hb0 with hb0 | hb0
          · exact absurd (hlow C (.inr hb0)) (Nat.not_lt.mpr hC)
          · exact hne hb0.2.symm
        have hnC : s₂.heap.Ns C mC := hmC.sameBut hsb hbC; refine ⟨mC, hnC, fun h' hsb' => wpAny_pure (wpAny_pure ?_)⟩; obtain ⟨oC, hoC, hcC⟩ := Ns.obj hnC; have X₃ : EnvR prog w h₀ cx asg env { s₂ with heap := h' } (fun b => Na b \/ b = C) (fun b => No b \/ (cx.own.contains i = true /\ b = acc)) (st pe i (.lst rs)) :=
          X₂.poke (.inr rfl) hoC hcC (fun b o hb e => hsb'.extBut b o hb e) (Nat.le_of_eq hsb'.1.symm) (Nat.le_refl _) id
        refine hQ _ (fun b => No b \/ (cx.own.contains i = true /\ b = acc)) ?_ (X₃.narrow fun b q => .inl q); refine ⟨⟨fun b o hn e => ?_, ?_, fun b q => q.elim .inl fun q => .inr (by rw [q.2]; exact ha)⟩, fun g gs e => ?_, fun q => ?_, hext.os.trans P.os, hext.drawn.trans P.drawn, Nat.le_trans (Ext.toks P) (show s'.toks <= s₂.toks from Ext.toks hext)⟩
        · have hb : b < s.heap.objs.size := Heap.lt_size e; refine hsb'.extBut b o (fun q => by rw [q] at hb; exact absurd hb (Nat.not_lt.mpr hC)) (hsb.extBut b o (fun q => ?_) (Pure.keep P b o e)); subst q; rcases hb0 with hb0 | hb0
          · exact hn hb0
          · rw [hb0.2] at hb; exact absurd hb (Nat.not_lt.mpr ha)
        · show s.heap.objs.size <= h'.objs.size; rw [hsb'.1, hsb.1]; exact P.step.grow
        · exact hext.gens g gs (P.gens g gs e)
        · exact hext.bare (P.bare q)
    · cases hd
  · cases hc
theorem exec_asg (hE : ∀ p, EvalP prog w h₀ GL F B p) (hT : ∀ p, TrueP prog w h₀ GL F B p) (hI : ∀ p, IterP prog w h₀ GL F B p) (i : Nat) (e : PE) : ExecP prog w h₀ GL F B (.asg i e) := by
  intro A cx asg env s Na No pe pe' fl stm Q E htop R X hc hd hQ; unfold chkS at hc; split at hc
  · rename_i x px v pos; simp only [Bool.and_eq_true, Bool.not_eq_true', Bool.or_eq_true] at hc; obtain ⟨⟨⟨⟨h1, h2⟩, h3⟩, h4⟩, h5⟩ := hc; have hi := eq_of_beq h1; have hx : x ∈ asg := by simpa using h2
    simp only [denS] at hd; split at hd
    · rename_i p d1; simp only [Option.some.injEq, Prod.mk.injEq] at hd; obtain ⟨rfl, rfl⟩ := hd; have plain : swapsWith v (some (.Name x px)) pos.line env = Pure.pure false -> wpAny (model prog w) A (exec (.Assign [.Name x px] v pos) env) Q E s := by
        intro hs; refine wpAny_Assign_Name (hE e R X h4 d1 fun u s₁ P₁ o₁ => ?_) hs; have X₁ := X.pure P₁; refine store_sound X₁ hx hi ⟨by rw [h3]; exact o₁.f rfl, fun hk y t ey => ?_⟩ (fun a ea h => by rw [h3] at h; cases h) (fun a ea h => by rw [h3] at h; cases h) fun s₂ b0 _ _ _ _ he X₂ => hQ _ _ No ((P₁.toExt fun b q => .inl q).trans he) X₂ .next; rcases h5 with h5 | h5
        · rw [hk] at h5; cases h5
        · exact o₁.tok h5 y t ey
      by_cases hcomp : isComp v = true
      · have hsw : ∃ b, swapsWith v (some (.Name x px)) pos.line env = Pure.pure b := by
          cases v <;> simp [isComp] at hcomp; exact swapsWith_comp
        obtain ⟨b, hb⟩ := hsw; cases b with
        | false => exact plain hb
        | true =>
          refine comp_used hE hT hI R X h4 hcomp d1 hi hx ?_ hb fun s' No' he X' => hQ _ _ No' he X' .next; rcases h5 with h5 | h5
          · exact h5
          · exfalso; cases v <;> simp [isComp] at hcomp; cases e <;> first | (simp [tokP] at h5; done) | (simp [chkE, globB] at h4)
      · exact plain (swapsWith_false h4 (by simpa using hcomp))
    · cases hd
  · cases hc
theorem exec_asgO (hE : ∀ p, EvalP prog w h₀ GL F B p) (hT : ∀ p, TrueP prog w h₀ GL F B p) (hI : ∀ p, IterP prog w h₀ GL F B p) (i : Nat) (e : PE) : ExecP prog w h₀ GL F B (.asgO i e) := by
  intro A cx asg env s Na No pe pe' fl stm Q E htop R X hc hd hQ; unfold chkS at hc; split at hc
  · rename_i x px v pos; simp only [Bool.and_eq_true, Bool.not_eq_true'] at hc; obtain ⟨⟨⟨⟨⟨h1, h2⟩, h3⟩, h4⟩, h5⟩, h6⟩ := hc; have hi := eq_of_beq h1; have hx : x ∈ asg := by simpa using h2
    simp only [denS] at hd; split at hd
    · rename_i l d1; simp only [Option.some.injEq, Prod.mk.injEq] at hd; obtain ⟨rfl, rfl⟩ := hd; have plain : swapsWith v (some (.Name x px)) pos.line env = Pure.pure false -> wpAny (model prog w) A (exec (.Assign [.Name x px] v pos) env) Q E s := by
        intro hs; refine wpAny_Assign_Name (hE e R X h4 d1 fun u s₁ P₁ o₁ => ?_) hs; obtain ⟨a, vs, rfl, ha, hl, hr⟩ := o₁.fresh h6 l rfl; have halt : a < s₁.heap.objs.size := let ⟨n, e⟩ := hl; Heap.lt_size e; have X₁ := X.wide (Wider.one P₁ X.lowO ha halt); refine store_sound X₁ hx hi ⟨?_, fun hk => by rw [h5] at hk; cases hk⟩ (fun a' ea h => by cases ea; exact .inr rfl) (fun a' ea h y j hj hji hs hoj hb => ?_) fun s₂ b0 _ _ _ _ he X₂ => hQ _ _ _ ((P₁.toExt fun b q => q.elim .inl fun q => .inr (by rw [q]; exact ha)).trans he) X₂ .next
        · rw [if_pos h3]; refine ⟨a, rfl, .inr (.inr rfl), Nat.ne_of_gt (Nat.lt_of_lt_of_le (X.base.low _ (.inr X.noL)) ha), vs, hl, RVs.weak' (fun b q => ?_) hr⟩; rcases q with q | q | q
          · exact .inl (.inl q)
          · exact .inl (.inr q)
          · exact .inr q
        · cases ea; obtain ⟨q, hq⟩ := Option.isSome_iff_exists.mp hs; exact absurd (X.lowO a (X.turns y j a hj hoj hs (X.bind_back P₁ hj hq hb))) (Nat.not_lt.mpr ha)
      by_cases hcomp : isComp v = true
      · have hsw : ∃ b, swapsWith v (some (.Name x px)) pos.line env = Pure.pure b := by
          cases v <;> simp [isComp] at hcomp; exact swapsWith_comp
        obtain ⟨b, hb⟩ := hsw; cases b with
        | false => exact plain hb
        | true => exact comp_used hE hT hI R X h4 hcomp d1 hi hx h5 hb fun s' No' he X' => hQ _ _ No' he X' .next
      · exact plain (swapsWith_false h4 (by simpa using hcomp))
    · cases hd
  · cases hc
end
end Mine
end
section
open PySem PySem.W PyProof.Rows
namespace Mine
section
variable {prog : Program} {w : World} {A : Around} {E : Value -> Shared -> Prop} {s : Shared}
theorem list_iadd {l b : Addr} {vs us : List Value} {Q : Value -> Shared -> Prop} (hl : s.heap.PlainList l vs.toArray) (hb : s.heap.PlainList b us.toArray) (hsz : vs.length + us.length <= 100000)
    (hQ : ∀ h', h'.PlainList l (vs ++ us).toArray -> Heap.SameBut l s.heap h' -> Q (.ref l) { s with heap := h' }) : wpAny (model prog w) A (inplaceOp .Add (.ref l) (.ref b)) Q E s := by
  obtain ⟨n, e1⟩ := hl; obtain ⟨n2, e2⟩ := hb; have ha : s.TypeIs (.ref l) "list" := ⟨_, e1, rfl⟩; have hb : s.TypeIs (.ref b) "list" := ⟨_, e2, rfl⟩; unfold inplaceOp; refine wpAny_holding ?_; have hfi : fillsInplaceSlot (.type "list") "add" (Operator.Add == .Add) = pure false := by
    unfold fillsInplaceSlot; show (typeLookup (.type "list") (dunderI "add") >>= fun fi => pure (fi.isSome && !isSeqSlot fi)) = pure false; rw [F.slot_list_iadd.lookup]; simp only [pure_bind]; rw [show isSeqSlot (some (.builtin "list.__iadd__")) = true by decide +kernel]; rfl
  have hsi : seqSlot? (.type "list") (dunderI "add") = pure (some (.builtin "list.__iadd__")) := PySem.seqSlot_of F.slot_list_iadd.lookup (by decide +kernel); refine wpAny_bind (wpAny_typeOf ha (wpAny_bind (wpAny_of_eq hfi ?_))); show wpAny _ A (if false = true then _ else _) Q E s; rw [if_neg Bool.false_ne_true]; refine wpAny_bind (PySem.wpAny_binaryOp1_none (nm := "add") ha hb PySem.noFill_list_add ?_); refine wpAny_bind (wpAny_of_eq hsi ?_); refine wpAny_bind (wpAny_rule (call_meets F.slot_list_iadd ha F.entry_list_iadd (F.args_list_iadd_2 _ _) (AutoSeq1.list___iadd___list_list_0 l vs.toArray n b us.toArray n2 (by simp [Builtin.List.listTooLong, sizeLine]; intros; omega) (by simp [sizeLine]; omega) (by simp [sizeLine]; omega)) ⟨e1, e2, ?_⟩)); have hm : ∃ k, Obj.mapSeq (fun x => x ++ us.toArray) { cls := .type "list", data := .seq vs.toArray n } = { cls := .type "list", data := .seq (vs ++ us).toArray k } := by
    refine ⟨if (vs.toArray ++ us.toArray).size == vs.toArray.size then n else n + 1, ?_⟩; rw [<- List.append_toArray]; rfl
  obtain ⟨k, hm⟩ := hm; have hg := Heap.get?_update_self (Obj.mapSeq fun x => x ++ us.toArray) e1 (by rw [hm]; rfl); rw [hm] at hg; exact hQ _ ⟨k, hg⟩ (Heap.SameBut.update ..)
end
section
variable {prog : Program} {w : World} {h₀ : Heap} {GL : List (Str × G)} {F : Nat -> List PV -> Option PV} {fa : Nat -> Addr} {B : Nat}
variable {A : Around} {cx : Cx} {asg : List Str} {env : Env} {s : Shared} {Na No : Addr -> Prop} {pe : PEnv} {E : Value -> Shared -> Prop}
theorem BindAt.load {x : Str} {v : Value} {Q : Value -> Shared -> Prop} (k : env.scope.kind = .function) (b : BindAt env s.heap x v) (h2 : notDebug x = true) (h : Q v s) : wpAny (model prog w) A (loadName env x) Q E s := by
  have hd : (x == ("__debug__" : Str)) = false /\ (x == ("__classdict__" : Str)) = false := by simpa only [notDebug, Bool.and_eq_true, Bool.not_eq_true'] using h2
  cases b with
  | loc m h1 h3 h4 => exact wpAny_loadName_local k h1 h3 h4 h
  | cell c h1 h3 h4 =>
    rcases h1 with h1 | h1
    · exact wpAny_loadName_cell k h1 h3 h4 h
    · exact wpAny_loadName_free k h1 h3 h4 h hd.2
theorem EnvR.mutate {x : Str} {i : Nat} {a : Addr} {p p' : PV} {h' : Heap} {t' : Nat} (r : EnvR prog w h₀ cx asg env s Na No pe) (hi : cx.vars.lookup x = some i) (hown : cx.own.contains i = true) (hb : BindAt env s.heap x (.ref a)) (hp : lk pe i = some p)
    (hsb : Heap.SameBut a s.heap h') (ht : s.toks <= t') (hnew : OwnR prog w h' (fun b => Na b \/ No b) a p') : EnvR prog w h₀ cx asg env { s with heap := h', toks := t' } Na No (st pe i p') /\ Ext s No { s with heap := h', toks := t' } No /\ BindAt env h' x (.ref a) := by
  have hno : No a := r.turns x i a hi hown (by rw [hp]; rfl) hb; obtain ⟨v0, hb0, hs0⟩ := r.vars x i p hi hp; have hv0 := hb0.same hb; subst hv0; have hs1 := hs0.1; rw [if_pos hown] at hs1; obtain ⟨a', ea, _, haL, hold⟩ := hs1; cases ea; have hk : ∀ b o, b ≠ a -> s.heap.get? b = some o -> h'.get? b = some o := fun b o hb e => hsb.extBut b o hb e; have hg : s.heap.objs.size = h'.objs.size := hsb.1.symm; have S : Step s.heap (fun b => Na b \/ No b) h' (fun b => Na b \/ No b) := ⟨fun b o hn e => hk b o (fun q => hn (.inr (q ▸ hno))) e, Nat.le_of_eq hg, fun _ q => .inl q⟩; have hc0 : ∀ c v, s.heap.IsCell c v -> c ≠ a := fun c v h e => own_ne_cell hold h e.symm; have hcs : ∀ c v, s.heap.IsCell c v -> h'.IsCell c v := fun c v h => let ⟨o, h1, h2⟩ := h; ⟨o, hk c o (hc0 c v h) h1, h2⟩; have hns : ∀ m, s.heap.Ns env.locals m -> h'.Ns env.locals m := fun m h => let ⟨o, es, ep, x, q⟩ := h; ⟨o, es, ep, hk _ _ (Ne.symm haL) x, q⟩; have hB : ∀ y v, BindAt env s.heap y v -> BindAt env h' y v := fun y v h => by
    cases h with
    | loc m a b c => exact .loc m a (hns m b) c
    | cell c a b d => exact .cell c a b (hcs c _ d)
  have back : ∀ y j q v, cx.vars.lookup y = some j -> lk pe j = some q -> BindAt env h' y v -> BindAt env s.heap y v := fun y j q v hy hq b => by
    obtain ⟨u, hu, _⟩ := r.vars y j q hy hq; have := (hB y u hu).same b; subst this; exact hu
  have lkS : ∀ j, (lk (st pe i p') j).isSome = true -> ∃ q, lk pe j = some q := fun j h => by
    obtain ⟨q, hq⟩ := Option.isSome_iff_exists.mp h; rcases lk_st hq with ⟨rfl, _⟩ | ⟨_, h2⟩
    · exact ⟨p, hp⟩
    · exact ⟨q, h2⟩
  refine ⟨{
    base := {
      keep := fun b o e => hk b o (fun q => by have := r.base.above a (.inr hno); have h2 := Heap.lt_size e; rw [q] at h2; exact absurd h2 (Nat.not_lt.mpr this)) (r.base.keep b o e)
      above := r.base.above
      size := Nat.le_trans r.base.size (Nat.le_of_eq hg)
      low := fun b q => Nat.lt_of_lt_of_le (r.base.low b q) (Nat.le_of_eq hg)
      toks := Nat.lt_of_lt_of_le r.base.toks ht
      bare := r.base.bare }
    kind := r.kind
    glb := r.glb
    blt := r.blt
    gl := r.gl
    cl := fun y hy => let ⟨h1, c, v, h2, h3⟩ := r.cl y hy; ⟨h1, c, v, h2, hcs c v h3⟩
    ns := let ⟨m, hm⟩ := r.ns; ⟨m, hns m hm⟩
    noL := r.noL
    apart := r.apart
    cellsLow := fun y c h => Nat.lt_of_lt_of_le (r.cellsLow y c h) (Nat.le_of_eq hg)
    vars := fun y j q h1 h2 => by
      rcases lk_st h2 with ⟨rfl, rfl⟩ | ⟨hj, h2⟩
      · have : y = x := r.inj y x _ h1 hi; subst this; refine ⟨.ref a, hB _ _ hb, ?_, fun h x t e => by cases e⟩; rw [if_pos hown]; exact ⟨a, rfl, .inr hno, haL, hnew⟩
      · obtain ⟨v, hb', hs⟩ := r.vars y j q h1 h2; refine ⟨v, hB y v hb', ?_, fun h x t e => ⟨(hs.2 h x t e).1, Nat.lt_of_lt_of_le (hs.2 h x t e).2 ht⟩⟩; have h3 := hs.1; split
        · rename_i hc; rw [if_pos hc] at h3; obtain ⟨a2, e, q1, q2, q3⟩ := h3; subst e; have hne : a2 ≠ a := fun e => by
            subst e; exact hj (r.alone y x j i a2 h1 hi (by rw [h2]; rfl) (by rw [hp]; rfl) hc hown hb' hb)
          refine ⟨a2, rfl, q1, q2, ?_⟩; cases q <;> simp only [OwnR] at q3 ⊢
          · obtain ⟨vs, h4, h5⟩ := q3; exact ⟨vs, h4.at fun o e => hk _ _ hne e, h5.step S⟩
          · obtain ⟨hs', kvs, hd, hk'⟩ := q3; obtain ⟨o, es, ep, e, q⟩ := hd; exact ⟨hs', kvs, ⟨o, es, ep, hk _ _ hne e, q⟩, hk'⟩
        · rename_i hc; rw [if_neg hc] at h3; exact h3.step S
    stores := fun y hy => by
      cases r.stores y hy with
      | loc h => exact .loc h
      | cell c v₀ h1 h2 h3 h4 => exact .cell c v₀ h1 h2 h3 (hcs c _ h4)
    inj := r.inj
    alone := fun y z j k b h1 h2 h3 h4 h5 h6 h7 h8 => by
      obtain ⟨q1, e1⟩ := lkS j h3; obtain ⟨q2, e2⟩ := lkS k h4; exact r.alone y z j k b h1 h2 (by rw [e1]; rfl) (by rw [e2]; rfl) h5 h6 (back y j q1 _ h1 e1 h7) (back z k q2 _ h2 e2 h8)
    disj := r.disj
    turns := fun y j b h1 h2 h3 h4 => by
      obtain ⟨q1, e1⟩ := lkS j h3; exact r.turns y j b h1 h2 (by rw [e1]; rfl) (back y j q1 _ h1 e1 h4) }, ?_⟩
  exact ⟨⟨⟨fun b o hn e => hk b o (fun q => hn (q ▸ hno)) e, Nat.le_of_eq hg, fun _ q => .inl q⟩, fun _ _ e => e, id, rfl, rfl, ht⟩, hB _ _ hb⟩
theorem exec_newD (GK : Glo prog w h₀ GL fa) (i : Nat) : ExecP prog w h₀ GL F B (.newD i) := by
  intro A cx asg env s Na No pe pe' fl stm Q E htop R X hc hd hQ; unfold chkS at hc; split at hc
  · rename_i x px pd pos; simp only [Bool.and_eq_true, Bool.not_eq_true'] at hc; obtain ⟨⟨⟨h1, h2⟩, h3⟩, h4⟩ := hc; have hi := eq_of_beq h1; have hx : x ∈ asg := by simpa using h2
    simp only [denS, Option.some.injEq, Prod.mk.injEq] at hd; obtain ⟨rfl, rfl⟩ := hd; refine wpAny_Assign_Name (wpAny_Dict_empty ?_); have P₁ : Pure s { s with heap := s.heap.push { cls := .type "dict", data := .dict #[] } } := Pure.push s _ (Nat.le_refl _); have hlt : s.heap.objs.size < (s.heap.push { cls := .type "dict", data := .dict #[] }).objs.size := by simp [Heap.size_push]
    have X₁ := X.wide (Wider.one P₁ X.lowO (Nat.le_refl _) hlt); have hbig : (s.heap.objs.size == sysModules) = false := by
      have := GK.big; have h2 := X.base.size; simp only [beq_eq_false_iff_ne, ne_eq]; exact Nat.ne_of_gt (Nat.lt_of_lt_of_le this h2)
    refine store_sound X₁ hx hi ⟨?_, fun hk => by rw [h4] at hk; cases hk⟩ (fun a' ea h => by cases ea; exact .inr rfl) (fun a' ea h y j hj hji hs hoj hb => ?_) fun s₂ b0 _ _ _ _ he X₂ => hQ _ _ _ ((P₁.toExt fun b q => q.elim .inl fun q => .inr (Nat.le_of_eq q.symm)).trans he) X₂ .next
    · rw [if_pos h3]; exact ⟨_, rfl, .inr (.inr rfl), Nat.ne_of_gt (X.base.low _ (.inr X.noL)), hbig, [], Heap.DictOf.new s.heap, .nil⟩
    · cases ea; obtain ⟨q, hq⟩ := Option.isSome_iff_exists.mp hs; exact absurd (X.lowO _ (X.turns y j _ hj hoj hs (X.bind_back P₁ hj hq hb))) (Nat.lt_irrefl _)
  · cases hc
theorem exec_aug (hE : ∀ p, EvalP prog w h₀ GL F B p) (i : Nat) (op : Operator) (e : PE) : ExecP prog w h₀ GL F B (.aug i op e) := by
  intro A cx asg env s Na No pe pe' fl stm Q E htop R X hc hd hQ; unfold chkS at hc; split at hc
  · rename_i x px o v pos; simp only [Bool.and_eq_true, Bool.not_eq_true'] at hc; obtain ⟨⟨⟨⟨⟨⟨h0, h1⟩, h2⟩, h3⟩, h4⟩, h5⟩, h6⟩ := hc; obtain rfl := eq_of_beq h0; have hi := eq_of_beq h1; have hx : x ∈ asg := by simpa using h2
    simp only [denS] at hd; split at hd
    · rename_i p q d1 d2; split at hd
      · rename_i z hz; simp only [Option.some.injEq, Prod.mk.injEq] at hd; obtain ⟨rfl, rfl⟩ := hd; obtain ⟨u, hb, hs⟩ := X.vars x i p hi d1; refine wpAny_AugAssign_Name (hb.load X.kind h5 (hE e R X h6 d2 fun v' s₁ P₁ o₁ => ?_)); have ou := hs.1; rw [h3] at ou; simp only [Bool.false_eq_true, if_false] at ou; have fin : ∀ (zv : Value) (s₂ : Shared), Pure s s₂ -> (∀ (h : Heap) (N : Addr -> Prop), RV prog w h N zv z) -> wpAny (model prog w) A (storeName env x zv) (fun _ => Q .next) E s₂ := by
          intro zv s₂ P₂ hr; refine store_sound (X.pure P₂) hx hi ⟨by rw [h3]; exact hr _ _, fun hk => by rw [h4] at hk; cases hk⟩ (fun a ea h => by rw [h3] at h; cases h) (fun a ea h => by rw [h3] at h; cases h) fun s₃ b0 _ _ _ _ he X₃ => hQ _ _ No ((P₂.toExt fun b q => .inl q).trans he) X₃ .next
        have ov := o₁.t; unfold augF at hz; split at hz
        · cases hz; cases ou; cases ov; exact P.iadd_int (fin _ _ (P₁.trans (Pure.toks _)) fun h N => .int _ _)
        · cases hz; cases ou; cases ov; exact P.isub_int (fin _ _ (P₁.trans (Pure.toks _)) fun h N => .int _ _)
        · cases ou; cases ov; split at hz <;> cases hz; refine wpAny_mon (SB.iadd (fun t' k hm => wpAny_mono (fin _ _ (P₁.trans (Pure.toks _ hm.2)) fun h N => .str _ _) (fun _ _ h => h) fun _ _ h => h) (by unfold sizeLine; omega))
        · cases hz
      · cases hd
    · cases hd
  · cases hc
theorem exec_ret (hE : ∀ p, EvalP prog w h₀ GL F B p) (e : PE) : ExecP prog w h₀ GL F B (.ret e) := by
  intro A cx asg env s Na No pe pe' fl stm Q E htop R X hc hd hQ; unfold chkS at hc; split at hc
  · simp only [denS] at hd; split at hd
    · rename_i p d1; simp only [Option.some.injEq, Prod.mk.injEq] at hd; obtain ⟨rfl, rfl⟩ := hd; exact wpAny_Return_some (hE e R X hc d1 fun v s₁ P₁ o₁ => hQ _ _ No (P₁.toExt fun b q => .inl q) (X.pure P₁) (.ret (o₁.a htop)))
    · cases hd
  · cases hc
theorem exec_brk : ExecP prog w h₀ GL F B .brk := by
  intro A cx asg env s Na No pe pe' fl stm Q E htop R X hc hd hQ; unfold chkS at hc; split at hc
  · simp only [denS, Option.some.injEq, Prod.mk.injEq] at hd; obtain ⟨rfl, rfl⟩ := hd; show wpAny _ A (do standAt _; Pure.pure Flow.brk) Q E s; exact wpAny_bind (wpAny_standAt (wpAny_pure (hQ _ _ No (Ext.refl _ _) X .brk)))
  · cases hc
end
end Mine
end
section
open PySem PySem.W PyProof.Rows
namespace Mine
section
variable {prog : Program} {w : World} {h₀ : Heap} {GL : List (Str × G)} {F : Nat -> List PV -> Option PV} {fa : Nat -> Addr} {B : Nat}
variable {A : Around} {cx : Cx} {asg : List Str} {env : Env} {s : Shared} {Na No : Addr -> Prop} {pe : PEnv} {E : Value -> Shared -> Prop}
theorem EnvR.ownList {x : Str} {i : Nat} {l : List PV} (X : EnvR prog w h₀ cx asg env s Na No pe) (hi : cx.vars.lookup x = some i) (ho : cx.own.contains i = true) (hp : lk pe i = some (.lst l)) :
    ∃ a vs, BindAt env s.heap x (.ref a) /\ No a /\ a ≠ env.locals /\ s.heap.PlainList a (List.toArray vs) /\ RVs prog w s.heap (fun b => Na b \/ No b) vs l := by
  obtain ⟨v, hb, hs⟩ := X.vars x i _ hi hp; have h1 := hs.1; rw [if_pos ho] at h1; obtain ⟨a, rfl, _, h3, vs, h4, h5⟩ := h1; exact ⟨a, vs, hb, X.turns x i a hi ho (by rw [hp]; rfl) hb, h3, h4, h5⟩
theorem ownV_inv {x : Str} {i : Nat} (h : ownV cx x i = true) : cx.vars.lookup x = some i /\ cx.own.contains i = true /\ notDebug x = true := by
  simp only [ownV, Bool.and_eq_true] at h; exact ⟨eq_of_beq h.1.1, h.1.2, h.2⟩
theorem same_step {a : Addr} {h h' : Heap} {N : Addr -> Prop} (hs : Heap.SameBut a h h') (hN : N a) : Step h N h' N :=
  ⟨fun b o hn e => hs.extBut b o (fun q => hn (q ▸ hN)) e, Nat.le_of_eq hs.1.symm, fun _ q => .inl q⟩
theorem not_inter (X : EnvR prog w h₀ cx asg env s Na No pe) : interactive env = false := by
  unfold interactive; rw [X.kind]; rfl
theorem lk_st_self {p q : PV} : ∀ {pe : PEnv} {i : Nat}, lk pe i = some q -> lk (st pe i p) i = some p
  | [], _, h => by simp [lk] at h
  | a :: l, 0, h => by simp [st, lk]
  | a :: l, n + 1, h => by simp only [st, lk] at h ⊢; exact lk_st_self h
theorem KVR.snoc {K : Type} {k : K} {v : Value} {a : SV} {kvs : List (K × Value)} {l : List (K × SV)} (r : KVR kvs l) (h : SVR v a) : KVR (kvs ++ [(k, v)]) (l ++ [(k, a)]) := by
  induction r with
  | nil => exact .cons h .nil
  | cons a b ih => exact .cons a ih
theorem lookup_mem {V : Type} {k : Int} : ∀ {l : List (Int × V)}, k ∈ l.map (·.1) -> (l.lookup k).isSome = true
  | (a, b) :: l, h => by
    rw [List.lookup_cons]
    by_cases e : k = a
    · subst e; simp
    · rw [show (k == a) = false by simpa using e]; simp only [List.map_cons, List.mem_cons] at h; exact lookup_mem (h.resolve_left e)
theorem exec_app (hE : ∀ p, EvalP prog w h₀ GL F B p) (i : Nat) (e : PE) : ExecP prog w h₀ GL F B (.app i e) := by
  intro A cx asg env s Na No pe pe' fl stm Q E htop R X hc hd hQ; unfold chkS at hc; split at hc
  · rename_i x px n apos a pos pos2; simp only [Bool.and_eq_true] at hc; obtain ⟨⟨⟨⟨h0, h1⟩, h2⟩, h3⟩, h4⟩ := hc; obtain rfl := eq_of_beq h0; obtain ⟨hi, ho, hdb⟩ := ownV_inv h1; simp only [denS] at hd; split at hd
    · rename_i l y d1 d2; split at hd <;> cases hd; rename_i hlen; obtain ⟨ad, vs, hb, hno, hL, hl, hr⟩ := X.ownList hi ho d1; have hbk : backTo pos (starEach [a] env) = [(false, eval a env)] := by rw [starEach_cons h4]; rfl
      refine wpAny_Expr_any (wpAny_Call_method rfl (by rw [hbk]; rfl) h3 PySem.F.plainAttrs_list PySem.F.slot_list_append PySem.F.type_list_append (hb.name X.kind hdb ⟨hl.isList.typeIs, fun q e => by cases e; obtain ⟨n, e⟩ := hl; exact ⟨_, e, rfl⟩, ?_⟩)) (not_inter X) rfl; rw [hbk]; refine Calls.callWith_builtin rfl (Calls.evalArgs_plain (Calls.spliced_cons (hE e R X h2 d2 fun v s₁ P₁ o₁ => Calls.spliced_nil ?_))); have hl₁ : s₁.heap.PlainList ad (List.toArray vs) := hl.at fun o e => Pure.keep P₁ _ o e; have X₁ := X.pure P₁; refine wpAny_list_append_plain hl₁ (fun h' hl' hsb => ?_) (by have := hr.length; simp only [List.size_toArray, sizeLine]; omega); have S := same_step (N := fun b => Na b \/ No b) hsb (.inr hno); obtain ⟨X₂, he, hbb⟩ := X₁.mutate hi ho (hb.keeps P₁.keep) d1 hsb (Nat.le_refl _) (p' := .lst (l ++ [y])) ⟨vs ++ [v], by simpa using hl', RVs.append ((hr.step (P₁.stepAt _)).step S) (RVs.one ((o₁.f rfl).step S))⟩; exact hQ _ _ No ((P₁.toExt fun b q => .inl q).trans he) X₂ .next
    · cases hd
  · cases hc
theorem exec_pop (j i : Nat) : ExecP prog w h₀ GL F B (.pop j i) := by
  intro A cx asg env s Na No pe pe' fl stm Q E htop R X hc hd hQ; unfold chkS at hc; split at hc
  · rename_i y py x px n apos pos pos2; simp only [Bool.and_eq_true, Bool.not_eq_true'] at hc; obtain ⟨⟨⟨⟨⟨⟨h0, h1⟩, h2⟩, h3⟩, h4⟩, h5⟩, h6⟩ := hc; obtain rfl := eq_of_beq h0; obtain ⟨hi, ho, hdb⟩ := ownV_inv h1; have hj := eq_of_beq h3; have hy : y ∈ asg := by simpa using h4
    simp only [denS] at hd; split at hd
    · rename_i l d1; split at hd
      · rename_i q hq; split at hd <;> cases hd; rename_i hlen; obtain ⟨ad, vs, hb, hno, hL, hl, hr⟩ := X.ownList hi ho d1; have hlen2 := hr.length; refine wpAny_Assign_Name (wpAny_Call_method rfl rfl h2 PySem.F.plainAttrs_list PySem.F.slot_list_pop PySem.F.type_list_pop (hb.name X.kind hdb ⟨hl.isList.typeIs, fun q e => by cases e; obtain ⟨n, e⟩ := hl; exact ⟨_, e, rfl⟩, ?_⟩)); refine Calls.callWith_builtin rfl (PySem.evalArgs_none ?_); obtain ⟨k, hk⟩ := hl; have hq' : l[l.length - 1]? = some q := by rw [<- List.getLast?_eq_getElem?]; exact hq
        obtain ⟨v, hv, rv⟩ := hr.get hq'; refine PyProof.Rows.Copied.pop_at (y := v) hk (by simpa [hlen2] using hv) (fun h' hsb hk' => ?_) (by simp only [List.size_toArray, sizeLine]; omega); have S := same_step (N := fun b => Na b \/ No b) hsb (.inr hno); have hpl : h'.PlainList ad (List.toArray vs.dropLast) := ⟨k + 1, by rw [hk']; congr 3⟩; have hdl : RVs prog w s.heap (fun b => Na b \/ No b) vs.dropLast l.dropLast := by
          rw [List.dropLast_eq_take, List.dropLast_eq_take, hlen2]; exact hr.take _
        obtain ⟨X₂, he, hbb⟩ := X.mutate hi ho hb d1 hsb (Nat.le_refl _) (p' := .lst l.dropLast) ⟨vs.dropLast, hpl, hdl.step S⟩; refine store_sound X₂ hy hj ⟨by rw [h5]; exact rv.step S, fun hk => by rw [h6] at hk; cases hk⟩ (fun a ea h => by rw [h5] at h; cases h) (fun a ea h => by rw [h5] at h; cases h) fun s₃ b0 _ _ _ _ he₃ X₃ => hQ _ _ No (he.trans he₃) X₃ .next
      · cases hd
    · cases hd
  · cases hc
theorem exec_ext (hE : ∀ p, EvalP prog w h₀ GL F B p) (i : Nat) (e : PE) : ExecP prog w h₀ GL F B (.ext i e) := by
  intro A cx asg env s Na No pe pe' fl stm Q E htop R X hc hd hQ; unfold chkS at hc; split at hc
  · rename_i x px v pos; simp only [Bool.and_eq_true, Bool.not_eq_true'] at hc; obtain ⟨⟨⟨⟨h1, h2⟩, h3⟩, h4⟩, h5⟩ := hc; obtain ⟨hi, ho, hdb⟩ := ownV_inv h1; have hx : x ∈ asg := by simpa using h2
    simp only [denS] at hd; split at hd
    · rename_i l m d1 d2; split at hd <;> cases hd; rename_i hlen; obtain ⟨ad, vs, hb, hno, hL, hl, hr⟩ := X.ownList hi ho d1; refine wpAny_AugAssign_Name (hb.load X.kind hdb (hE e R X h4 d2 fun u s₁ P₁ o₁ => ?_)); obtain ⟨b, us, rfl, hbs, hbl, hbr⟩ := o₁.fresh h5 m rfl; have X₁ := X.pure P₁; have hl₁ : s₁.heap.PlainList ad (List.toArray vs) := hl.at fun o e => Pure.keep P₁ _ o e; refine list_iadd hl₁ hbl (by have := hr.length; have := hbr.length; omega) fun h' hl' hsb => ?_; have S := same_step (N := fun b => Na b \/ No b) hsb (.inr hno); have hbr' : RVs prog w s₁.heap (fun b => Na b \/ No b) us m := hbr.weak' fun b q => .inl q; obtain ⟨X₂, he, hbb⟩ := X₁.mutate hi ho (hb.keeps P₁.keep) d1 hsb (Nat.le_refl _) (p' := .lst (l ++ m)) ⟨vs ++ us, hl', RVs.append ((hr.step (P₁.stepAt _)).step S) (hbr'.step S)⟩; have hlk : lk (st pe i (.lst (l ++ m))) i = some (.lst (l ++ m)) := by
        exact lk_st_self d1
      obtain ⟨v2, hb2, hs2⟩ := X₂.vars x i _ hi hlk; have e2 := hb2.same hbb; subst e2; refine store_sound X₂ hx hi hs2 (fun a ea h => by cases ea; exact hno) (fun a ea h y j hj hji hs hoj hby => ?_) fun s₃ b0 _ _ _ _ he₃ X₃ => hQ _ _ No ((P₁.toExt fun b q => .inl q).trans (he.trans he₃)) (by rw [st_st] at X₃; exact X₃) .next; cases ea; exact hji (X₂.alone y x j i ad hj hi hs (by rw [hlk]; rfl) hoj ho hby hbb)
    · cases hd
  · cases hc
theorem exec_setI (hE : ∀ p, EvalP prog w h₀ GL F B p) (i : Nat) (k v : PE) : ExecP prog w h₀ GL F B (.setI i k v) := by
  intro A cx asg env s Na No pe pe' fl stm Q E htop R X hc hd hQ; have R1 : Room A (nd k + B) := R.le (by simp only [ns]; omega); have R2 : Room A (nd v + B) := R.le (by simp only [ns]; omega); unfold chkS at hc; split at hc
  · rename_i x px ke spos ve pos; simp only [Bool.and_eq_true] at hc; obtain ⟨⟨h1, h2⟩, h3⟩ := hc; obtain ⟨hi, ho, hdb⟩ := ownV_inv h1; simp only [denS] at hd; split at hd
    · rename_i l kk vv d1 d2 d3; split at hd
      · cases hd
      rename_i hcond; simp only [Option.some.injEq, Prod.mk.injEq] at hd; obtain ⟨rfl, rfl⟩ := hd; simp only [Bool.or_eq_true, decide_eq_true_eq, not_or, Nat.not_lt, Bool.not_eq_true] at hcond; obtain ⟨hnl, hlen⟩ := hcond; refine wpAny_Assign_Subscript (hE v R2 X h3 d3 fun v₁ s₁ P₁ o₁ => ?_) (by cases ve <;> rfl); have X₁ := X.pure P₁; obtain ⟨u, hb, hs⟩ := X₁.vars x i _ hi d1; have h4 := hs.1; rw [if_pos ho] at h4; obtain ⟨ad, rfl, _, hL, hsm, kvs, hdo, hkv⟩ := h4; refine hb.name X.kind hdb (hE k R1 X₁ h2 d2 fun k₁ s₂ P₂ o₂ => ?_); have X₂ := X₁.pure P₂; have ok := o₂.t; cases ok with
      | int _ tk =>
      have ov := o₁.t; cases ov with
      | str _ tv =>
      have hdo₂ := hdo.keep P₂.keep; refine wpAny_setItem_pairs (intKind_is prog w kk tk) hdo₂ (fun h' hd' hsb => ?_) (by have := hkv.keys; have h5 := congrArg List.length this; simp at h5; unfold sizeLine; omega); have hst : stored kvs kk (.str vv tv) = kvs ++ [(kk, .str vv tv)] := by
        unfold stored; rw [if_neg]; intro hx; simp only [List.any_eq_true, decide_eq_true_eq] at hx; obtain ⟨q, hq, e⟩ := hx; have hm : kk ∈ l.map (·.1) := by rw [<- hkv.keys]; exact e ▸ List.mem_map_of_mem hq
        obtain ⟨q', hq', e'⟩ := List.mem_map.mp hm; have : (l.lookup kk).isSome = true := by
          exact lookup_mem hm
        rw [hnl] at this; cases this
      rw [hst] at hd'; have hno : No ad := X₁.turns x i ad hi ho (by rw [d1]; rfl) hb; have hkv' : KVR (kvs ++ [(kk, .str vv tv)]) (l ++ [(kk, .t vv)]) := by
        exact hkv.snoc (.t _ _)
      obtain ⟨X₃, he, hbb⟩ := X₂.mutate hi ho (hb.keeps P₂.keep) d1 hsb (Nat.le_succ _) (p' := .dcti (l ++ [(kk, .t vv)])) ⟨hsm, _, hd', hkv'⟩; exact hQ _ _ No ((Pure.toExt (P₁.trans P₂) fun b q => .inl q).trans he) X₃ .next
    · cases hd
  · cases hc
end
end Mine
end
section
open PySem PySem.W PyProof.Rows
namespace Mine
section
variable {prog : Program} {w : World} {h₀ : Heap} {GL : List (Str × G)} {F : Nat -> List PV -> Option PV} {fa : Nat -> Addr} {B : Nat}
variable {A : Around} {cx : Cx} {asg : List Str} {env : Env} {s : Shared} {Na No : Addr -> Prop} {pe : PEnv} {E : Value -> Shared -> Prop}
def ActOK (prog : Program) (w : World) (h₀ : Heap) (cx : Cx) (asg : List Str) (env : Env) (act : Value -> Sem Unit) (i : Nat) : Prop :=
  ∀ {A : Around} {s : Shared} {Na No : Addr -> Prop} {pe : PEnv} {E : Value -> Shared -> Prop} {v : Value} {p : PV} {Q : Unit -> Shared -> Prop}, EnvR prog w h₀ cx asg env s Na No pe -> RV prog w s.heap (fun b => Na b \/ No b) v p ->
    (∀ s', Ext s No s' No -> EnvR prog w h₀ cx asg env s' Na No (st pe i p) -> Q () s') -> wpAny (model prog w) A (act v) Q E s
theorem chkN_inv {e : PySem.Expr} {i : Nat} (h : chkN cx asg e i = true) : ∃ x pos, e = .Name x pos /\ cx.vars.lookup x = some i /\ x ∈ asg /\ cx.own.contains i = false /\ cx.tk.contains i = false := by
  unfold chkN at h; split at h
  · rename_i x pos; simp only [Bool.and_eq_true, Bool.not_eq_true'] at h; exact ⟨x, pos, rfl, eq_of_beq h.1.1.1, by simpa using h.1.1.2, h.1.2, h.2⟩
  · cases h
theorem act_store {x : Str} {i : Nat} {act : Value -> Sem Unit} (h1 : cx.vars.lookup x = some i) (h2 : x ∈ asg) (h3 : cx.own.contains i = false) (h4 : cx.tk.contains i = false)
    (ha : ∀ {A : Around} {s : Shared} {E : Value -> Shared -> Prop} {v : Value} {Q : Unit -> Shared -> Prop}, wpAny (model prog w) A (storeName env x v) Q E s -> wpAny (model prog w) A (act v) Q E s) : ActOK prog w h₀ cx asg env act i := by
  intro A s Na No pe E v p Q X rv hQ; exact ha (store_sound X h2 h1 ⟨by rw [h3]; exact rv, fun hk => by rw [h4] at hk; cases hk⟩ (fun a ea h => by rw [h3] at h; cases h) (fun a ea h => by rw [h3] at h; cases h) fun s₃ b0 _ _ _ _ he X₃ => hQ _ he X₃)
theorem act_assign {e : PySem.Expr} {i : Nat} (h : chkN cx asg e i = true) : ActOK prog w h₀ cx asg env (assign e env) i := by
  obtain ⟨x, pos, rfl, h1, h2, h3, h4⟩ := chkN_inv h; exact act_store h1 h2 h3 h4 fun h => wpAny_assign_Name h
theorem inOrder {Q : Unit -> Shared -> Prop} : ∀ {acts : List (Value -> Sem Unit)} {is : List Nat} {vs : List Value} {ps : List PV} {s : Shared} {No : Addr -> Prop} {pe pe' : PEnv},
    acts.length = is.length -> (∀ (k : Nat) (a : Value -> Sem Unit) (i : Nat), acts[k]? = some a -> is[k]? = some i -> ActOK prog w h₀ cx asg env a i) -> EnvR prog w h₀ cx asg env s Na No pe -> RVs prog w s.heap (fun b => Na b \/ No b) vs ps -> bindAll is ps pe = some pe' ->
    (∀ s', Ext s No s' No -> EnvR prog w h₀ cx asg env s' Na No pe' -> Q () s') -> wpAny (model prog w) A (assignInOrder acts vs) Q E s
  | [], [], _, _, s, No, pe, pe', _, _, X, r, hb, hQ => by
    cases r with
    | nil => simp only [bindAll, Option.some.injEq] at hb; subst hb; exact wpAny_pure (hQ _ (Ext.refl _ _) X)
    | cons => simp [bindAll] at hb
  | a :: acts, i :: is, _, _, s, No, pe, pe', hl, ha, X, r, hb, hQ => by
    cases r with
    | nil => simp [bindAll] at hb
    | @cons v p vs ps r1 r2 =>
      simp only [bindAll] at hb; show wpAny _ A (do holding vs (a v); assignInOrder acts vs) Q E s; refine wpAny_bind (wpAny_holding (ha 0 a i rfl rfl X r1 fun s₁ e₁ X₁ => ?_)); exact inOrder (by simpa using hl) (fun k b j h1 h2 => ha (k + 1) b j (by simpa using h1) (by simpa using h2)) X₁ (r2.step (e₁.step.or Na)) hb fun s' e' X' => hQ _ (e₁.trans e') X'
  | [], _ :: _, _, _, _, _, _, _, hl, _, _, _, _, _ => by simp at hl
  | _ :: _, [], _, _, _, _, _, _, hl, _, _, _, _, _ => by simp at hl
theorem chkNs_acts : ∀ {es : List PySem.Expr} {ts : List Nat}, chkNs cx asg es ts = true ->
    (assignEach es env).length = ts.length /\ (assignEach es env).findIdx? (·.1) = none /\ es.length = ts.length /\ ∀ (k : Nat) (a : Value -> Sem Unit) (i : Nat), ((assignEach es env).map (·.2))[k]? = some a -> ts[k]? = some i -> ActOK prog w h₀ cx asg env a i
  | [], [], _ => ⟨rfl, rfl, rfl, fun k a i h => by simp [assignEach] at h⟩
  | e :: es, t :: ts, h => by
    simp only [chkNs, Bool.and_eq_true] at h; obtain ⟨x, pos, rfl, _⟩ := chkN_inv h.1; obtain ⟨h1, h2, h3, h4⟩ := chkNs_acts h.2; have he : assignEach (.Name x pos :: es) env = (false, assign (.Name x pos) env) :: assignEach es env := rfl; refine ⟨by rw [he]; simp [h1], by rw [he]; simp [List.findIdx?_cons, h2], by simp [h3], fun k a i ha hi => ?_⟩; rw [he] at ha; cases k with
    | zero =>
      simp only [List.map_cons, List.getElem?_cons_zero, Option.some.injEq] at ha hi; subst ha hi; exact act_assign h.1
    | succ k => exact h4 k a i (by simpa using ha) (by simpa using hi)
  | [], _ :: _, h => by simp [chkNs] at h
  | _ :: _, [], h => by simp [chkNs] at h
theorem unpack_sound {v : Value} {p : PV} {l : List PV} {n : Nat} {Q : List Value -> Shared -> Prop} (hh : A.handled = none) (X : EnvR prog w h₀ cx asg env s Na No pe) (rv : RV prog w s.heap (fun b => Na b \/ No b) v p) (hp : p = .tup l \/ p = .lst l) (hn : l.length = n)
    (hQ : ∀ vs s', Pure s s' -> RVs prog w s'.heap (fun b => Na b \/ No b) vs l -> EnvR prog w h₀ cx asg env s' Na No pe -> Q vs s') : wpAny (model prog w) A (unpackItems v n none) Q E s := by
  have fin : ∀ (vs : List Value) (h' : Heap), Heap.ExtBut s.heap.objs.size s.heap h' -> Mono s { s with heap := h' } -> RVs prog w s.heap (fun b => Na b \/ No b) vs l -> Q vs { s with heap := h' } := by
    intro vs h' he hm hr; have P : Pure s { s with heap := h' } := Pure.mk' (t := s.toks) (fun b o e => he b o (Nat.ne_of_lt (Heap.lt_size e)) e) hm; exact hQ _ _ P (hr.step (P.stepAt _)) (X.pure P)
  rcases hp with rfl | rfl
  · cases rv with
    | @tup _ vs _ _ pa ra =>
    have := ra.length; have e : n = vs.toArray.size := by rw [<- hn, <- this]; simp
    rw [e]; exact wpAny_mon (wpAny_unpackItems_tuple hh pa.isTuple fun h' he hm => fin _ h' he hm ra)
  · cases rv with
    | @lst _ vs _ _ pa ra =>
    have := ra.length; have e : n = vs.toArray.size := by rw [<- hn, <- this]; simp
    rw [e]; exact wpAny_mon (kun_itemsOf hh pa.isList fun h' he hm => fin _ h' he hm ra)
theorem bindAll_len : ∀ {ts : List Nat} {l : List PV} {pe pe' : PEnv}, bindAll ts l pe = some pe' -> l.length = ts.length
  | [], [], _, _, _ => rfl
  | _ :: ts, _ :: l, pe, pe', h => by simp only [bindAll] at h; simp [bindAll_len h]
  | [], _ :: _, _, _, h => by simp [bindAll] at h
  | _ :: _, [], _, _, h => by simp [bindAll] at h
theorem bindT_many {ts : List Nat} {p : PV} {pe pe' : PEnv} (h : bindT ts p pe = some pe') (h2 : 2 <= ts.length) : ∃ l, (p = .tup l \/ p = .lst l) /\ bindAll ts l pe = some pe' := by
  match ts, h2 with
  | i :: j :: ts, _ =>
    cases p <;> simp [bindT] at h
    · exact ⟨_, .inl rfl, h⟩
    · exact ⟨_, .inr rfl, h⟩
theorem bind_tuple {es : List PySem.Expr} {k : Nat} {tp : Pos} {ts : List Nat} {v : Value} {p : PV} {pe' : PEnv} {Q : Unit -> Shared -> Prop} (hh : A.handled = none) (X : EnvR prog w h₀ cx asg env s Na No pe) (hc : chkNs cx asg es ts = true) (h2 : 2 <= ts.length)
    (rv : RV prog w s.heap (fun b => Na b \/ No b) v p) (hb : bindT ts p pe = some pe') (hQ : ∀ s', Ext s No s' No -> EnvR prog w h₀ cx asg env s' Na No pe' -> Q () s') : wpAny (model prog w) A (assign (.Tuple es k tp) env v) Q E s := by
  obtain ⟨l, hp, hb'⟩ := bindT_many hb h2; obtain ⟨h1, h2', h3, h4⟩ := chkNs_acts (env := env) (prog := prog) (w := w) (h₀ := h₀) hc; rw [PyProof.Rows.assign_Tuple]; refine wpAny_bind (wpAny_standAt ?_); unfold unpack; rw [h1, h2']; refine wpAny_bind (wpAny_holding (unpack_sound hh X rv hp (bindAll_len hb') fun vs s₁ P₁ r₁ X₁ => ?_)); exact inOrder (by simp [h1]) h4 X₁ r₁ hb' fun s' e' X' => hQ _ ((P₁.toExt fun b q => .inl q).trans e') X'
theorem bind_sound {tgt : PySem.Expr} {ts : List Nat} {v : Value} {p : PV} {pe' : PEnv} {Q : Unit -> Shared -> Prop} (hh : A.handled = none) (X : EnvR prog w h₀ cx asg env s Na No pe) (hc : chkT cx asg tgt ts = true)
    (rv : RV prog w s.heap (fun b => Na b \/ No b) v p) (hb : bindT ts p pe = some pe') (hQ : ∀ s', Ext s No s' No -> EnvR prog w h₀ cx asg env s' Na No pe' -> Q () s') : wpAny (model prog w) A (assign tgt env v) Q E s := by
  unfold chkT at hc; split at hc
  · simp only [bindT, Option.some.injEq] at hb; subst hb; exact act_assign hc X rv hQ
  · split at hc
    · simp only [Bool.and_eq_true, decide_eq_true_eq] at hc; exact bind_tuple hh X hc.1.1 hc.1.2 rv hb hQ
    · cases hc
end
section
variable {prog : Program} {w : World} {A : Around} {E : Value -> Shared -> Prop} {s : Shared} {R : Result -> Shared -> Prop}
theorem forLoop_go {target : PySem.Expr} {it : Value} {body : List Stmt} {env : Env} (I : Nat -> Shared -> Prop)
    (turn : ∀ n s, I n s -> ∀ E', wpAny (model prog w) A (pyNext it) (fun r s₁ => match r with
      | none => R (.ok .next) s₁
      | some v => wpAny (model prog w) A (letOwnedTupleGo target it v) (fun _ s₁' => wpAny (model prog w) A (assign target env v) (fun _ s₂ =>
          wpAny (model prog w) A (execs body env) (fun f s₃ => match f with
            | .next | .cont => ∃ m, m < n /\ I m s₃
            | .brk => R (.ok .next) s₃
            | .ret v => R (.ok (.ret v)) s₃) E' s₂) E' s₁') E' s₁) E' s)
    (n : Nat) (h : I n s) : codeAny (model prog w) A (.forLoop target it body [] env) R s := by
  refine codeAny_loop' rfl I (fun n s hI => ?_) n h; show wpAny _ _ ((forTurn target it body [] env).onRaise (fun x => do noteFrame x env; theTreesLotGoes x)) _ _ s; refine wpAny_noted ?_; simp only [forTurn]; refine wpAny_bind (wpAny_standAt (wpAny_bind (wpAny_onRaise (wpAny_mono (turn n s hI _) (fun r s₁ h₁ => ?_) fun _ _ h' => wpAny_standAt h')))); cases r with
  | none => exact wpAny_pure (.inr ⟨rfl, codeAny_block (wpAny_execs_nil h₁)⟩)
  | some v =>
    refine wpAny_bind (wpAny_mono h₁ (fun _ s₁' h₁' => ?_) fun _ _ h' => h'); refine wpAny_bind (wpAny_mono h₁' (fun _ s₂ h₂ => wpAny_bind (wpAny_mono h₂ (fun f s₃ h₃ => ?_) fun _ _ h' => h')) fun _ _ h' => h'); cases f with
    | next => exact wpAny_pure (.inl ⟨rfl, h₃⟩)
    | cont => exact wpAny_pure (.inl ⟨rfl, h₃⟩)
    | brk => exact wpAny_pure h₃
    | ret v => exact wpAny_pure h₃
theorem letGo_plain {target : PySem.Expr} {I : Addr} {v : Value} {o : Obj} {n : String} {Q : Unit -> Shared -> Prop} (ho : s.heap.get? I = some o) (hc : o.cls = .type n) (hn : goesN n = false) (h : Q () s) :
    wpAny (model prog w) A (letOwnedTupleGo target (.ref I) v) Q E s := by
  have key : wpAny (model prog w) A (do
      let (.ref r, .ref a) := ((.ref I : Value), v) | return
      let o <- load r
      match o.cls, o.data with
      | .type n, .fields vs =>
        if ["enumerate", "zip", "dict_itemiterator", "dict_reverseitemiterator", "odict_iterator", "itertools.zip_longest", "itertools.pairwise"].contains n && vs[0]? == some (rawInt a) then
          rule "for.unpacks-the-owned-tuple"
          updateField r 0 .none
      | _, _ => pure () : Sem Unit) Q E s := by
    cases v with
    | ref a =>
      refine wpAny_bind (wpAny_load ho ?_); rw [hc]; split
      · rename_i m vs e1 e2; cases e1; unfold goesN at hn; rw [hn]; simp only [Bool.false_and, Bool.false_eq_true, if_false]; exact wpAny_pure h
      · exact wpAny_pure h
    | _ => exact wpAny_pure h
  unfold letOwnedTupleGo; split
  · exact key
  · exact key
  · exact wpAny_pure h
end
end Mine
end
section
open PySem PySem.W PyProof.Rows
namespace Mine
section
variable {prog : Program} {w : World} {h₀ : Heap} {GL : List (Str × G)} {F : Nat -> List PV -> Option PV} {fa : Nat -> Addr} {B : Nat}
variable {A : Around} {cx : Cx} {asg : List Str} {env : Env} {s : Shared} {Na No : Addr -> Prop} {pe : PEnv} {E : Value -> Shared -> Prop}
theorem exec_ite (hT : ∀ p, TrueP prog w h₀ GL F B p) {t : PE} {a b : PSs} (ha : ExecsP prog w h₀ GL F B a) (hb : ExecsP prog w h₀ GL F B b) : ExecP prog w h₀ GL F B (.ite t a b) := by
  intro A cx asg env s Na No pe pe' fl stm Q E htop R X hc hd hQ; have R1 : Room A (nd t + B) := R.le (by simp only [ns]; omega); have R2 : Room A (nss a + B) := R.le (by simp only [ns]; omega); have R3 : Room A (nss b + B) := R.le (by simp only [ns]; omega); unfold chkS at hc; split at hc
  · simp only [Bool.and_eq_true] at hc; simp only [denS] at hd; split at hd
    · rename_i d1; refine wpAny_If (hT t R1 X hc.1.1 d1 fun s₁ P₁ => ?_); simp only [if_true]; exact ha htop R2 (X.pure P₁) hc.1.2 hd fun f s' No' e' X' hf => hQ f s' No' ((P₁.toExt fun b q => .inl q).trans e') X' hf
    · rename_i d1; refine wpAny_If (hT t R1 X hc.1.1 d1 fun s₁ P₁ => ?_); simp only [Bool.false_eq_true, if_false]; exact hb htop R3 (X.pure P₁) hc.2 hd fun f s' No' e' X' hf => hQ f s' No' ((P₁.toExt fun b q => .inl q).trans e') X' hf
    · cases hd
  · cases hc
theorem exec_while (hT : ∀ p, TrueP prog w h₀ GL F B p) {n : Nat} {t : PE} {a : PSs} (ha : ExecsP prog w h₀ GL F B a) : ExecP prog w h₀ GL F B (.while n t a) := by
  intro A cx asg env s Na No pe pe' fl stm Q E htop R X hc hd hQ; have R1 : Room A (nd t + B) := R.le (by simp only [ns]; omega); have R2 : Room A (nss a + B) := R.le (by simp only [ns]; omega); unfold chkS at hc; split at hc
  · simp only [Bool.and_eq_true] at hc; simp only [denS] at hd; refine wpAny_While (codeAny_whileLoop (fun k s' => ∃ pe₁ No₁, Ext s No s' No₁ /\ EnvR prog w h₀ cx asg env s' Na No₁ pe₁ /\ whileF (denE F t) (denSs F a) k pe₁ = some (pe', fl)) ?_ n ⟨pe, No, Ext.refl _ _, X, hd⟩)
    rintro k s' ⟨pe₁, No₁, e₁, X₁, hw⟩
    cases k with
    | zero => simp [whileF] at hw
    | succ k =>
      simp only [whileF] at hw; split at hw
      · rename_i d1; simp only [Option.some.injEq, Prod.mk.injEq] at hw; obtain ⟨rfl, rfl⟩ := hw; refine hT t R1 X₁ hc.1 d1 fun s₂ P₂ => ?_; simp only [Bool.false_eq_true, if_false]; exact wpAny_execs_nil (hQ _ _ No₁ (e₁.trans (P₂.toExt fun b q => .inl q)) (X₁.pure P₂) .next)
      · rename_i d1; refine hT t R1 X₁ hc.1 d1 fun s₂ P₂ => ?_; simp only [if_true]; have e₂ := e₁.trans (Pure.toExt (No' := No₁) P₂ fun b q => .inl q); split at hw
        · rename_i pe₂ d2; refine ha htop R2 (X₁.pure P₂) hc.2 d2 fun f s₃ No₃ e₃ X₃ hf => ?_; cases hf; exact ⟨k, Nat.lt_succ_self _, pe₂, No₃, e₂.trans e₃, X₃, hw⟩
        · rename_i pe₂ d2; simp only [Option.some.injEq, Prod.mk.injEq] at hw; obtain ⟨rfl, rfl⟩ := hw; refine ha htop R2 (X₁.pure P₂) hc.2 d2 fun f s₃ No₃ e₃ X₃ hf => ?_; cases hf; exact hQ _ _ No₃ (e₂.trans e₃) X₃ .next
        · rename_i pe₂ v d2; simp only [Option.some.injEq, Prod.mk.injEq] at hw; obtain ⟨rfl, rfl⟩ := hw; refine ha htop R2 (X₁.pure P₂) hc.2 d2 fun f s₃ No₃ e₃ X₃ hf => ?_; cases hf with
          | ret hr => exact hQ _ _ No₃ (e₂.trans e₃) X₃ (.ret hr)
        · cases hw
      · cases hw
  · cases hc
theorem execs_nil : ExecsP prog w h₀ GL F B .nil := by
  intro A cx asg env s Na No pe pe' fl stm Q E htop R X hc hd hQ; unfold chkSs at hc; obtain rfl : stm = [] := by simpa using hc
  simp only [denSs, Option.some.injEq, Prod.mk.injEq] at hd; obtain ⟨rfl, rfl⟩ := hd; exact wpAny_execs_nil (hQ _ _ No (Ext.refl _ _) X .next)
theorem execs_cons {p : PS} {ps : PSs} (hp : ExecP prog w h₀ GL F B p) (hps : ExecsP prog w h₀ GL F B ps) : ExecsP prog w h₀ GL F B (.cons p ps) := by
  intro A cx asg env s Na No pe pe' fl stm Q E htop R X hc hd hQ; unfold chkSs at hc; split at hc
  · simp only [Bool.and_eq_true] at hc; simp only [denSs] at hd; split at hd
    · rename_i pe₁ d1; refine wpAny_execs_cons (hp htop (R.le (by simp only [nss]; omega)) X hc.1 d1 fun f s₁ No₁ e₁ X₁ hf => ?_); cases hf; exact hps htop (R.le (by simp only [nss]; omega)) X₁ hc.2 hd fun f s₂ No₂ e₂ X₂ hf => hQ f s₂ No₂ (e₁.trans e₂) X₂ hf
    · rename_i hne; refine wpAny_execs_cons (hp htop (R.le (by simp only [nss]; omega)) X hc.1 hd fun f s₁ No₁ e₁ X₁ hf => ?_); cases hf with
      | next => exact absurd hd (hne _)
      | brk => exact hQ _ _ No₁ e₁ X₁ .brk
      | ret hr => exact hQ _ _ No₁ e₁ X₁ (.ret hr)
  · cases hc
theorem exec_for (hI : ∀ p, IterP prog w h₀ GL F B p) {ts : List Nat} {src : PI} {a : PSs} (ha : ExecsP prog w h₀ GL F B a) : ExecP prog w h₀ GL F B (.for ts src a) := by
  intro A cx asg env s Na No pe pe' fl stm Q E htop R X hc hd hQ; have R1 : Room A (ndi src + B) := R.le (by simp only [ns]; omega); have R2 : Room A (nss a + B) := R.le (by simp only [ns]; omega); unfold chkS at hc; split at hc
  · rename_i tgt it bs pos; simp only [Bool.and_eq_true] at hc; obtain ⟨⟨h1, h2⟩, h3⟩ := hc; simp only [denS] at hd; split at hd
    · rename_i items d1; refine wpAny_For (hI src R1 X h2 d1 fun I s₂ P₂ hI1 hI2 hlen hit => ?_) (foldedI h2); obtain ⟨fp, P, St, W, hst, hcI, hfp, hP⟩ := hit; have W' := W A R.hh; have hnI : ¬ (Na I \/ No I) := fun q => absurd (X.low I q) (Nat.not_lt.mpr hI1); have X₂ : EnvR prog w h₀ cx asg env s₂ (fun b => Na b \/ b = I) No pe := by
        refine X.wideA P₂ (fun b q => .inl q) (fun b q => q.elim .inl fun q => .inr (by rw [q]; exact hI1)) fun b q => ?_; rcases q with q | q
        · exact Nat.lt_of_lt_of_le (X.low b (.inl q)) P₂.step.grow
        · rw [q]; exact hI2
      have e₂ : Ext s No s₂ No := P₂.toExt fun b q => .inl q; refine forLoop_go (fun n s' => ∃ k pe₁ No₁, k <= items.length /\ n = items.length - k /\ Ext s No s' No₁ /\ EnvR prog w h₀ cx asg env s' (fun b => Na b \/ b = I) No₁ pe₁ /\ St k s'.heap /\
          forF (denSs F a) ts (items.drop k) pe₁ = some (pe', fl) /\ (∀ b ∈ fp, b = I \/ ¬ (Na b \/ No₁ b) /\ b < s'.heap.objs.size) /\
          (∀ j v, j < items.length -> P j v -> ∃ p, items[j]? = some p /\ RV prog w s'.heap (fun b => (Na b \/ b = I) \/ No₁ b) v p)) ?_ items.length
        ⟨0, pe, No, Nat.zero_le _, by omega, e₂, X₂, hst, by simpa using hd, fun b hb => (hfp b hb).imp id fun q => ⟨q.1, q.2⟩, fun j v hj hv => let ⟨p, q1, q2⟩ := hP j v hj hv; ⟨p, q1, q2.weak' fun b q => q.elim (fun q => q.elim (fun q => .inl (.inl q)) .inr) fun q => .inl (.inr q)⟩⟩
      rintro n s' ⟨k, pe₁, No₁, hk, rfl, e₁, X₁, hst₁, hf, hfp₁, hP₁⟩ E'
      obtain ⟨oI, hoI, hcc, nm, hcl, hgo⟩ := hcI _ _ hst₁; have poke : ∀ {h' : Heap} {tk : Nat}, (∀ b o, b ∉ [I] -> s'.heap.get? b = some o -> h'.get? b = some o) -> Mono s' { s' with heap := h', toks := tk } ->
          EnvR prog w h₀ cx asg env { s' with heap := h', toks := tk } (fun b => Na b \/ b = I) No₁ pe₁ /\ Ext s No { s' with heap := h', toks := tk } No₁ /\ Step s'.heap (fun b => (Na b \/ b = I) \/ No₁ b) h' (fun b => (Na b \/ b = I) \/ No₁ b) := by
        intro h' tk hkp hm; refine ⟨X₁.poke (.inr rfl) hoI hcc (fun b o hb e => hkp b o (fun q => hb (List.mem_singleton.mp q)) e) hm.1 hm.2 id, ?_, ?_⟩
        · refine ⟨⟨fun b o hn e => hkp b o (fun q => ?_) (e₁.step.keep b o hn e), Nat.le_trans e₁.step.grow hm.1, e₁.step.new⟩, e₁.gens, e₁.bare, e₁.os, e₁.drawn, Nat.le_trans (Ext.toks e₁) hm.2⟩; have h5 := Heap.lt_size e; rw [List.mem_singleton.mp q] at h5; exact absurd h5 (Nat.not_lt.mpr hI1)
        · exact ⟨fun b o hn e => hkp b o (fun q => hn (.inl (.inr (List.mem_singleton.mp q)))) e, hm.1, fun _ q => .inl q⟩
      rcases Nat.lt_or_ge k items.length with hlt | hge
      · refine wpAny_mon (W'.item k s' _ _ hlt hst₁ fun v h' tk hv hst₂ hkp hm => ?_); obtain ⟨X₃, e₃, S₃⟩ := poke hkp hm; obtain ⟨p, hp, hrv⟩ := hP₁ k v hlt hv; rw [drop_cons hp] at hf; simp only [forF] at hf; split at hf
        · cases hf
        · rename_i pe₂ hb
          dsimp only
          obtain ⟨oI', hoI', _, nm', hcl', hgo'⟩ := hcI _ _ hst₂; refine letGo_plain hoI' hcl' hgo' (bind_sound R.hh X₃ h1 (hrv.step S₃) hb fun s₄ e₄ X₄ => ?_); have hfp₄ : ∀ b ∈ fp, b = I \/ ¬ (Na b \/ No₁ b) /\ b < s₄.heap.objs.size := fun b hb => (hfp₁ b hb).imp id fun q => ⟨q.1, Nat.lt_of_lt_of_le q.2 (Nat.le_trans hm.1 e₄.step.grow)⟩; have body : ∀ pe₃ fl₃ (Q₃ : Flow -> Shared -> Prop), denSs F a pe₂ = some (pe₃, fl₃) ->
              (∀ f s₅ No₅, Ext s No s₅ No₅ -> EnvR prog w h₀ cx asg env s₅ (fun b => Na b \/ b = I) No₅ pe₃ -> FlR prog w s₅.heap (fun b => Na b \/ b = I) fl₃ f -> St (k + 1) s₅.heap ->
                (∀ b ∈ fp, b = I \/ ¬ (Na b \/ No₅ b) /\ b < s₅.heap.objs.size) -> (∀ j v, j < items.length -> P j v -> ∃ p, items[j]? = some p /\ RV prog w s₅.heap (fun b => (Na b \/ b = I) \/ No₅ b) v p) -> Q₃ f s₅) ->
              wpAny (model prog w) A (execs bs env) Q₃ E' s₄ := by
            intro pe₃ fl₃ Q₃ d3 hK; refine ha htop R2 X₄ h3 d3 fun f s₅ No₅ e₅ X₅ hf => ?_; have e45 := e₄.trans e₅; have S45 : Step h' (fun b => (Na b \/ b = I) \/ No₁ b) s₅.heap (fun b => (Na b \/ b = I) \/ No₅ b) := e45.step.or (fun b => Na b \/ b = I); refine hK f s₅ No₅ (e₃.trans e45) X₅ hf ?_ ?_ ?_
            · refine W'.frame _ _ _ hst₂ fun b hb o e => e45.step.keep b o (fun q => ?_) e; rcases hfp₁ b hb with rfl | ⟨q1, _⟩
              · exact X₁.disj _ q (.inr rfl)
              · exact q1 (.inr q)
            · intro b hb; refine (hfp₁ b hb).imp id fun q => ⟨fun q' => ?_, Nat.lt_of_lt_of_le q.2 (Nat.le_trans hm.1 e45.step.grow)⟩; rcases q' with q' | q'
              · exact q.1 (.inl q')
              · rcases e45.step.new b q' with q'' | q''
                · exact q.1 (.inr q'')
                · exact absurd (Nat.lt_of_lt_of_le q.2 hm.1) (Nat.not_lt.mpr q'')
            · intro j v hj hv; obtain ⟨p, q1, q2⟩ := hP₁ j v hj hv; exact ⟨p, q1, (q2.step S₃).step S45⟩
          split at hf
          · rename_i pe₃ d3; refine body _ _ _ d3 fun f s₅ No₅ e₅ X₅ hfl st₅ fp₅ P₅ => ?_; cases hfl; exact ⟨items.length - (k + 1), by omega, k + 1, pe₃, No₅, hlt, rfl, e₅, X₅, st₅, hf, fp₅, P₅⟩
          · rename_i pe₃ d3; simp only [Option.some.injEq, Prod.mk.injEq] at hf; obtain ⟨rfl, rfl⟩ := hf; refine body _ _ _ d3 fun f s₅ No₅ e₅ X₅ hfl st₅ fp₅ P₅ => ?_; cases hfl; exact hQ _ _ No₅ e₅ (X₅.narrow fun b q => .inl q) .next
          · rename_i pe₃ v' d3; simp only [Option.some.injEq, Prod.mk.injEq] at hf; obtain ⟨rfl, rfl⟩ := hf; refine body _ _ _ d3 fun f s₅ No₅ e₅ X₅ hfl st₅ fp₅ P₅ => ?_; cases hfl with
            | ret hr => exact hQ _ _ No₅ e₅ (X₅.narrow fun b q => .inl q) (.ret (hr.weak' fun b q => .inl q))
          · cases hf
      · have hkl : k = items.length := Nat.le_antisymm hk hge; subst hkl; refine wpAny_mon (W'.done s' _ _ hst₁ fun h' tk hkp hm => ?_); obtain ⟨X₃, e₃, S₃⟩ := poke hkp hm; rw [List.drop_length] at hf; simp only [forF, Option.some.injEq, Prod.mk.injEq] at hf; obtain ⟨rfl, rfl⟩ := hf; exact hQ _ _ No₁ e₃ (X₃.narrow fun b q => .inl q) .next
    · cases hd
  · cases hc
end
end Mine
end
section
open PySem PySem.W PyProof.Rows
namespace Mine
section
variable {prog : Program} {w : World} {h₀ : Heap} {GL : List (Str × G)} {F : Nat -> List PV -> Option PV} {fa : Nat -> Addr} {B : Nat}
variable {A : Around} {cx : Cx} {asg : List Str} {env : Env} {s : Shared} {Na No : Addr -> Prop} {pe : PEnv} {E : Value -> Shared -> Prop}
def nameOf (e : PySem.Expr) : Option Str := match e with | .Name x _ => some x | _ => none
theorem filterMap_full {f : PySem.Expr -> Option Str} (hf : ∀ e x, f e = some x -> nameOf e = some x) : ∀ {es : List PySem.Expr}, (es.filterMap f).length = es.length -> es.map nameOf = (es.filterMap f).map some
  | [], _ => rfl
  | e :: es, h => by
    rw [List.filterMap_cons] at h ⊢; cases hx : f e with
    | none =>
      rw [hx] at h; simp only [List.length_cons] at h; have := List.length_filterMap_le f es; omega
    | some x =>
      rw [hx] at h; simp only [List.length_cons, Nat.add_right_cancel_iff] at h; simp only [List.map_cons, hf e x hx, filterMap_full hf h]
theorem swapped_cases {es : List PySem.Expr} {k : Nat} {p : Pos} {v : PySem.Expr} (ho : orderOk v = true) : swappedStores [.Tuple es k p] v env = Pure.pure none \/
    ∃ names, swappedStores [.Tuple es k p] v env = Pure.pure (some names) /\ es.map nameOf = names.map some /\ (es.length = 2 \/ es.length = 3) := by
  cases v with
  | Tuple vs k' p' =>
    unfold swappedStores; simp only [pure_bind, bind_pure_comp]
    by_cases h1 : (!(es.length == 2 || es.length == 3) || vs.length != es.length || env.blockKind != .function) = true
    · left; simp only [h1, if_true]
    simp only [Bool.not_eq_true] at h1; simp only [h1, Bool.false_eq_true, if_false]; split
    · left; rfl
    split
    · left; rfl
    rename_i h3; split
    · left; rfl
    rename_i h4; split
    · rename_i h5; exfalso; simp only [orderOk, Bool.or_eq_true, Bool.not_eq_true'] at ho; rcases ho with ho | ho
      · exact h4 ho
      · rw [ho] at h5; cases h5
    · right; refine ⟨_, rfl, ?_, ?_⟩
      · refine filterMap_full (fun e x hx => ?_) ?_
        · split at hx
          · split at hx
            · cases hx; rfl
            · cases hx
          · cases hx
        · simp only [Bool.or_eq_true, bne_iff_ne, ne_eq, not_or, Decidable.not_not] at h3; exact h3.1
      · simp only [Bool.or_eq_false_iff, Bool.not_eq_false', Bool.or_eq_true, beq_iff_eq] at h1; exact h1.1.1
  | _ => left; rfl
theorem st_comm {i j : Nat} {p q : PV} (h : i ≠ j) : ∀ {pe : PEnv}, st (st pe i p) j q = st (st pe j q) i p := by
  induction i generalizing j with
  | zero =>
    intro pe; cases pe with
    | nil => rfl
    | cons a l =>
      cases j with
      | zero => exact absurd rfl h
      | succ j => simp [st]
  | succ i ih =>
    intro pe; cases pe with
    | nil => rfl
    | cons a l =>
      cases j with
      | zero => simp [st]
      | succ j => simp only [st]; rw [ih (by omega)]
theorem bindAll_rev {ts : List Nat} {l : List PV} {pe pe' : PEnv} (hn : nodupN ts = true) (hl : ts.length = 2 \/ ts.length = 3) (h : bindAll ts l pe = some pe') : bindAll ts.reverse l.reverse pe = some pe' := by
  have hll := bindAll_len h; rcases hl with h2 | h3
  · match ts, h2 with
    | [i, j], _ =>
      match l, hll with
      | [p, q], _ =>
        simp only [bindAll, Option.some.injEq] at h; simp only [nodupN, List.contains_eq_mem, Bool.and_eq_true, Bool.not_eq_true', decide_eq_false_iff_not, List.mem_cons, List.not_mem_nil, or_false] at hn; subst h; simp only [List.reverse_cons, List.reverse_nil, List.nil_append, List.cons_append, bindAll, Option.some.injEq]; exact st_comm (Ne.symm hn.1)
  · match ts, h3 with
    | [i, j, k], _ =>
      match l, hll with
      | [p, q, r], _ =>
        simp only [bindAll, Option.some.injEq] at h; simp only [nodupN, List.contains_eq_mem, Bool.and_eq_true, Bool.not_eq_true', decide_eq_false_iff_not, List.mem_cons, List.not_mem_nil, or_false, not_or] at hn; subst h; simp only [List.reverse_cons, List.reverse_nil, List.nil_append, List.cons_append, bindAll, Option.some.injEq]; obtain ⟨⟨h1, h2⟩, h3, _⟩ := hn; rw [st_comm (Ne.symm h3), st_comm (Ne.symm h2), st_comm (i := j) (j := i) (Ne.symm h1)]
theorem chkNs_names : ∀ {es : List PySem.Expr} {ts : List Nat} {names : List Str}, chkNs cx asg es ts = true -> es.map nameOf = names.map some -> names.length = ts.length /\ ∀ (k : Nat) (n : Str) (i : Nat), names[k]? = some n -> ts[k]? = some i -> ActOK prog w h₀ cx asg env (bindName env n) i
  | [], [], names, _, h => by
    cases names with
    | nil => exact ⟨rfl, fun k n i h => by simp at h⟩
    | cons => simp at h
  | e :: es, t :: ts, names, hc, h => by
    simp only [chkNs, Bool.and_eq_true] at hc; cases names with
    | nil => simp at h
    | cons n names =>
      simp only [List.map_cons, List.cons.injEq] at h; obtain ⟨h1, h2⟩ := chkNs_names hc.2 h.2; refine ⟨by simp [h1], fun k m i hm hi => ?_⟩; cases k with
      | zero =>
        simp only [List.getElem?_cons_zero, Option.some.injEq] at hm hi; subst hm hi; obtain ⟨x, pos, rfl, q1, q2, q3, q4⟩ := chkN_inv hc.1; have : x = n := by simpa [nameOf] using h.1
        subst this; intro A' s' Na' No' pe' E' v' p' Q' X' r' hQ'; exact act_store (act := bindName env x) q1 q2 q3 q4 (fun h => wpAny_bindName h) X' r' hQ'
      | succ k => exact h2 k m i (by simpa using hm) (by simpa using hi)
  | [], _ :: _, _, h, _ => by simp [chkNs] at h
  | _ :: _, [], _, h, _ => by simp [chkNs] at h
theorem exec_asgT (hE : ∀ p, EvalP prog w h₀ GL F B p) (ts : List Nat) (e : PE) : ExecP prog w h₀ GL F B (.asgT ts e) := by
  intro A cx asg env s Na No pe pe' fl stm Q E htop R X hc hd hQ; unfold chkS at hc; split at hc
  · rename_i es k tp v pos; simp only [Bool.and_eq_true, decide_eq_true_eq] at hc; obtain ⟨⟨⟨h1, h2⟩, h3⟩, h4⟩ := hc; have hns : chkNs cx asg es ts = true /\ nodupN ts = true := by
      unfold chkT at h1; split at h1
      · simp at h2
      · simp only [Bool.and_eq_true] at h1; exact ⟨h1.1.1, h1.2⟩
    simp only [denS] at hd; split at hd
    · rename_i p d1; split at hd
      · rename_i pe₁ hb; simp only [Option.some.injEq, Prod.mk.injEq] at hd; obtain ⟨rfl, rfl⟩ := hd; have hsw : swapsWithSole [.Tuple es k tp] v pos.line env = Pure.pure false := by
          unfold swapsWithSole; cases v <;> rfl
        rcases swapped_cases (env := env) (es := es) (k := k) (p := tp) h4 with hw | ⟨names, hw, hnm, hlen⟩
        · refine PyProof.Rows.Assign_Tuple (hE e R X h3 d1 fun u s₁ P₁ o₁ => ?_) hsw hw; exact bind_tuple R.hh (X.pure P₁) hns.1 h2 (o₁.f rfl) hb fun s₂ e₂ X₂ => hQ _ _ No ((P₁.toExt fun b q => .inl q).trans e₂) X₂ .next
        · refine PyProof.Rows.Assign_Tuple_swapped (hE e R X h3 d1 fun u s₁ P₁ o₁ => ?_) hsw hw; obtain ⟨l, hp, hb'⟩ := bindT_many hb h2; obtain ⟨hnl, hacts⟩ := chkNs_names (prog := prog) (w := w) (h₀ := h₀) (env := env) hns.1 hnm; have hel : es.length = ts.length := (chkNs_acts (env := env) (prog := prog) (w := w) (h₀ := h₀) hns.1).2.2.1; refine unpack_sound R.hh (X.pure P₁) (o₁.f rfl) hp (by rw [bindAll_len hb', hnl]) fun vs s₂ P₂ r₂ X₂ => ?_; refine inOrder (is := ts.reverse) (ps := l.reverse) (by simp [hnl]) (fun m a i ha hi => ?_) X₂ r₂.reverse (bindAll_rev hns.2 (by rw [<- hel]; exact hlen) hb') fun s₃ e₃ X₃ => hQ _ _ No ((P₁.toExt fun b q => .inl q).trans ((P₂.toExt fun b q => .inl q).trans e₃)) X₃ .next; rw [List.getElem?_map] at ha; obtain ⟨n, hn, rfl⟩ := Option.map_eq_some_iff.mp ha; have hml : m < ts.length := by
            have := (List.getElem?_eq_some_iff.mp hi).1
            simpa using this
          rw [List.getElem?_reverse (by rw [hnl]; exact hml)] at hn; rw [List.getElem?_reverse hml] at hi; rw [hnl] at hn; exact @hacts _ n i hn hi
      · cases hd
    · cases hd
  · cases hc
end
end Mine
end
section
open PySem PySem.W PyProof.Rows
namespace Mine
structure FSpec where
  pars : List Str
  n : Nat
  vars : List (Str × Nat)
  own : List Nat
  tk : List Nat
  code : PSs
def FSpec.cx (f : FSpec) (sc : Scope) : Cx := ⟨f.vars, sc.names, f.own, f.tk, true⟩
def asgOf (sc : Scope) : List Str := (sc.names.filter fun nk => nk.2 == .local || nk.2 == .cell).map (·.1)
def parsOk (f : FSpec) (sc : Scope) : Nat -> List Str -> Bool
  | _, [] => true
  | k, x :: l => f.vars.lookup x == some k && !f.own.contains k && !f.tk.contains k && (sc.names.lookup x == some .local || sc.names.lookup x == some .cell) && parsOk f sc (k + 1) l
def chkF (GL : List (Str × G)) (f : FSpec) (body : List Stmt) (sc : Scope) : Bool :=
  sc.kind == .function && !sc.isGenerator && !sc.isCoroutine && nodupB (sc.names.map (·.1)) && nodupB (f.vars.map (·.1)) && nodupN (f.vars.map (·.2)) && sc.names.all (fun nk => nk.2 == .local || nk.2 == .cell || nk.2 == .globalImplicit) &&
  nodupB f.pars && parsOk f sc 0 f.pars && chkSs GL (f.cx sc) (asgOf sc) body f.code
def initPE (args : List PV) (n : Nat) : PEnv := args.map some ++ List.replicate (n - args.length) none
def denF (F : Nat -> List PV -> Option PV) (f : FSpec) (args : List PV) : Option PV :=
  if args.length = f.pars.length then match denSs F f.code (initPE args f.n) with
    | some (_, .ret v) => some v
    | _ => none
  else none
theorem lk_init {args : List PV} {n i : Nat} {p : PV} (h : lk (initPE args n) i = some p) : args[i]? = some p := by
  unfold initPE at h; have none_lk : ∀ (m i : Nat), lk (List.replicate m none) i = none := by
    intro m
    induction m with
    | zero => intro i; rfl
    | succ m ih =>
      intro i; cases i with
      | zero => rfl
      | succ i => simpa [List.replicate_succ, lk] using ih i
  generalize n - args.length = m at h
  induction args generalizing i with
  | nil => simp only [List.map_nil, List.nil_append] at h; rw [none_lk] at h; cases h
  | cons a l ih =>
    cases i with
    | zero => simp only [List.map_cons, List.cons_append, lk] at h; simpa using h
    | succ i => simp only [List.map_cons, List.cons_append, lk] at h; simpa using ih h
theorem parsOk_at {f : FSpec} {sc : Scope} : ∀ {l : List Str} {k j : Nat} {x : Str}, parsOk f sc k l = true -> l[j]? = some x ->
    f.vars.lookup x = some (k + j) /\ f.own.contains (k + j) = false /\ f.tk.contains (k + j) = false /\ (sc.names.lookup x = some .local \/ sc.names.lookup x = some .cell)
  | [], _, _, _, _, h => by simp at h
  | y :: l, k, j, x, hp, h => by
    simp only [parsOk, Bool.and_eq_true, Bool.not_eq_true', Bool.or_eq_true] at hp; cases j with
    | zero =>
      simp only [List.getElem?_cons_zero, Option.some.injEq] at h; subst h; exact ⟨eq_of_beq hp.1.1.1.1, hp.1.1.1.2, hp.1.1.2, hp.1.2.imp (fun q => eq_of_beq q) (fun q => eq_of_beq q)⟩
    | succ j =>
      have := parsOk_at (j := j) hp.2 (by simpa using h); rw [show k + 1 + j = k + (j + 1) by omega] at this; exact this
theorem nodupN_inj : ∀ {l : List (Str × Nat)} {x y : Str} {i : Nat}, nodupN (l.map (·.2)) = true -> l.lookup x = some i -> l.lookup y = some i -> x = y
  | (z, j) :: l, x, y, i, hn, h1, h2 => by
    simp only [List.map_cons, nodupN, Bool.and_eq_true, Bool.not_eq_true', List.contains_eq_mem, decide_eq_false_iff_not] at hn; rw [List.lookup_cons] at h1 h2; split at h1
    · rename_i e1; cases h1; split at h2
      · rename_i e2; rw [eq_of_beq e1, eq_of_beq e2]
      · exact absurd (List.mem_map_of_mem (f := (·.2)) (mem_lookup h2)) hn.1
    · split at h2
      · cases h2; exact absurd (List.mem_map_of_mem (f := (·.2)) (mem_lookup h1)) hn.1
      · exact nodupN_inj hn.2 h1 h2
theorem bindL_other {ko : Str -> Option NameKind} {x : Str} : ∀ {bs : List (Str × Value)} {m : Str -> Option Value}, x ∉ bs.map (·.1) -> bindL ko bs m x = m x
  | [], m, _ => rfl
  | (n, v) :: r, m, h => by
    simp only [List.map_cons, List.mem_cons, not_or] at h; unfold bindL; rw [bindL_other h.2]; split
    · simp only [if_neg h.1]
    · rfl
theorem bindC_other {ko : Str -> Option NameKind} {x : Str} : ∀ {bs : List (Str × Value)} {m : Str -> Option Value}, x ∉ bs.map (·.1) -> bindC ko bs m x = m x
  | [], m, _ => rfl
  | (n, v) :: r, m, h => by
    simp only [List.map_cons, List.mem_cons, not_or] at h; unfold bindC; rw [bindC_other h.2]; split
    · rfl
    · simp only [if_neg h.1]
theorem bind_at {ko : Str -> Option NameKind} : ∀ {pars : List Str} {vs : List Value} {m m' : Str -> Option Value} {j : Nat} {x : Str} {v : Value}, nodupB pars = true -> pars[j]? = some x -> vs[j]? = some v ->
    (ko x = some .local -> bindL ko (pars.zip vs) m x = some v) /\ (ko x ≠ some .local -> bindC ko (pars.zip vs) m' x = some v)
  | [], _, _, _, _, _, _, _, h, _ => by simp at h
  | _ :: _, [], _, _, _, _, _, _, _, h => by simp at h
  | y :: pars, u :: vs, m, m', j, x, v, hn, h1, h2 => by
    simp only [nodupB, Bool.and_eq_true, Bool.not_eq_true', List.contains_eq_mem, decide_eq_false_iff_not] at hn; cases j with
    | zero =>
      simp only [List.getElem?_cons_zero, Option.some.injEq] at h1 h2; subst h1 h2; have hx : y ∉ (pars.zip vs).map (·.1) := fun q => by
        obtain ⟨⟨a, b⟩, hm, e⟩ := List.mem_map.mp q; simp only at e; subst e; exact hn.1 (List.of_mem_zip hm).1
      refine ⟨fun hk => ?_, fun hk => ?_⟩
      · simp only [List.zip_cons_cons, bindL]; rw [bindL_other hx, if_pos hk]; simp
      · simp only [List.zip_cons_cons, bindC]; rw [bindC_other hx, if_neg hk]; simp
    | succ j =>
      simp only [List.getElem?_cons_succ] at h1 h2; simp only [List.zip_cons_cons, bindL, bindC]; exact bind_at hn.2 h1 h2
end Mine
end
section
open PySem PySem.W PyProof.Rows
namespace Mine
section
variable {M : Model} {A : Around} {R : GenEnd} {Y : Protocol} {n : Nat} {s₀ : Shared} {c : Code} {fs : List Frame} {s : Shared} {env : Env}
  {K : Flow -> Sem Fin} {H : Value -> Sem Fin} {gd : Bool -> Bool} {lv : List Value -> List Value}
theorem seg_then {α β : Type} {m : Sem α} {f : α -> Sem β} {K : β -> Sem Fin} {H : Value -> Sem Fin} {gd : Bool -> Bool} {lv : List Value -> List Value}
    (h : wpAny M (A.over c fs) m (fun a s' => Seg M A R Y n s₀ c ((f a).wrap K H gd lv) fs s') (fun x s' => Seg M A R Y n s₀ c (H x) fs s') s) :
    Seg M A R Y n s₀ c ((m >>= f).wrap K H gd lv) fs s := by
  rw [Sem.bind_eq_wrap', Sem.wrap_wrap]; exact seg_wrap h
theorem seg_exec {st : Stmt} (h : wpAny M (A.over c fs) (exec st env) (fun f s' => Seg M A R Y n s₀ c (K f) fs s') (fun x s' => Seg M A R Y n s₀ c (H x) fs s') s) :
    Seg M A R Y n s₀ c ((exec st env).wrap K H gd lv) fs s := seg_wrap h
theorem seg_If {test : PySem.Expr} {body orelse : List Stmt} {pos : Pos}
    (h : wpAny M (A.over c fs) (isTrue test env (eval test env)) (fun b s' => Seg M A R Y n s₀ c ((if b = true then execs body env else execs orelse env).wrap K H gd lv) fs s') (fun x s' => Seg M A R Y n s₀ c (H x) fs s') s) :
    Seg M A R Y n s₀ c ((exec (.If test body orelse pos) env).wrap K H gd lv) fs s := by
  rw [exec_If]; refine seg_then (wpAny_standAt ?_); exact seg_then h
end
section
variable {prog : Program} {w : World} {A : Around} {R : GenEnd} {Y : Protocol} {n : Nat} {s₀ : Shared} {fs : List Frame} {s : Shared} {env : Env}
theorem seg_forLoop {target : PySem.Expr} {it : Value} {body : List Stmt}
    (h : ∀ E, wpAny (model prog w) (A.over (.forLoop target it body [] env) fs) (pyNext it) (fun r s₁ => match r with
      | none => Seg (model prog w) A R Y n s₀ (.forLoop target it body [] env) (.pure (.again (.block [] env))) fs s₁
      | some v => wpAny (model prog w) (A.over (.forLoop target it body [] env) fs) (letOwnedTupleGo target it v) (fun _ s₁' => wpAny (model prog w) (A.over (.forLoop target it body [] env) fs) (assign target env v) (fun _ s₂ =>
          Seg (model prog w) A R Y n s₀ (.forLoop target it body [] env) ((execs body env).wrap (fun f => match f with
            | .next | .cont => .pure (.again (.forLoop target it body [] env))
            | .brk => .pure (.done .next)
            | .ret v => .pure (.done (.ret v))) (fun e => (do noteFrame e env; theTreesLotGoes e : Sem Unit).wrap (fun _ => .raise e) .raise id id) id id) fs s₂) E s₁') E s₁) E s) :
    Seg (model prog w) A R Y n s₀ (.forLoop target it body [] env) ((model prog w).den (.forLoop target it body [] env)) fs s := by
  show Seg _ A R Y n s₀ _ ((forTurn target it body [] env).onRaise (fun x => do noteFrame x env; theTreesLotGoes x)) fs s; unfold forTurn; rw [Sem.onRaise_eq_wrap]; refine seg_then (wpAny_standAt (seg_then (wpAny_onRaise (wpAny_mono (h _) (fun r s₁ h₁ => ?_) fun x s' hx => wpAny_standAt hx)))); cases r with
  | none => exact h₁
  | some v =>
    refine seg_then (wpAny_mono h₁ (fun _ s₁' h₁' => ?_) fun x s' hx => hx); refine seg_then (wpAny_mono h₁' (fun _ s₂ h₂ => ?_) fun x s' hx => hx); rw [Sem.bind_eq_wrap', Sem.wrap_wrap]; rw [Sem.wrap_congr (execs body env) _ _ (K' := fun f => match f with
            | .next | .cont => .pure (.again (.forLoop target it body [] env))
            | .brk => .pure (.done .next)
            | .ret v => .pure (.done (.ret v))) (H' := (fun e => (do noteFrame e env; theTreesLotGoes e : Sem Unit).wrap (fun _ => .raise e) .raise id id))
        (fun f => by cases f <;> rfl)
        (fun e => by first | exact Sem.bind_eq_wrap _ _ | (show (do noteFrame e env; theTreesLotGoes e : Sem Unit).bind (fun _ => .raise e) = _; rw [Sem.bind_eq_wrap]))]
    exact h₂
theorem seg_loopEnd {code c : Code} {K : Result -> Sem Fin} {hd : Option Value} {g : Bool} {l : List Value} {p : Pos} (h : Seg (model prog w) A R Y n s₀ c (K (.ok .next)) fs s) :
    Seg (model prog w) A R Y n s₀ code (.pure (.again (.block [] env))) (.ret K hd g l c p [] :: fs) s := by
  refine seg_again rfl ?_; exact seg_leaf (.ok .next) h
end
section
variable {prog : Program} {w : World} {A : Around} {E : Value -> Shared -> Prop} {s : Shared}
end
end Mine
end
section
open PySem PySem.W PyProof.Rows
namespace Mine
theorem room_g1 {A : Around} {k : Nat} {body : List Stmt} {env : Env} (R : Room A (k + 2)) : Room (A.in1.over (.func body env) []) k := by
  refine ⟨R.hh, ?_, ?_⟩
  · have := R.depth; show A.in1.depth + frameCount [] + Code.weight (.func body env) + k < 900; have e : Code.weight (.func body env) = 1 := rfl; simp only [Around.in1_depth, frameCount, List.map_nil, List.sum_nil]; omega
  · have := R.units; show A.in1.units + unitsOf [] + Code.cUnits (.func body env) + 8 * k < 9000; have e : Code.cUnits (.func body env) = 3 := rfl; simp only [Around.in1_units, unitsOf_nil]; omega
theorem room_g2 {A : Around} {k : Nat} {body b o : List Stmt} {env env' : Env} {t : PySem.Expr} {it : Value} {K : Result -> Sem Fin} {g : Bool} {l : List Value} {p : Pos} (R : Room A (k + 2)) :
    Room (A.in1.over (.forLoop t it b o env') [.ret K none g l (.func body env) p []]) k := by
  refine ⟨R.hh, ?_, ?_⟩
  · have := R.depth; show A.in1.depth + frameCount [(.func body env, p)] + Code.weight (.forLoop t it b o env') + k < 900; have e : Code.weight (.func body env) = 1 := rfl; have e2 : Code.weight (.forLoop t it b o env') = 0 := rfl; simp only [Around.in1_depth, frameCount, List.map_cons, List.map_nil, List.sum_cons, List.sum_nil]; omega
  · have := R.units; show A.in1.units + unitsOf [(.func body env, p)] + Code.cUnits (.forLoop t it b o env') + 8 * k < 9000; have e : Code.cUnits (.func body env) = 3 := rfl; have e2 : Code.cUnits (.forLoop t it b o env') = 0 := rfl; simp only [Around.in1_units, unitsOf_cons, unitsOf_nil]; omega
structure Later (h₀ : Heap) (Ng : Addr -> Prop) (s s' : Shared) : Prop where
  own : ∀ b o, Ng b -> s.heap.get? b = some o -> s'.heap.get? b = some o
  keep : ∀ b o, h₀.get? b = some o -> s'.heap.get? b = some o
  grow : s.heap.objs.size <= s'.heap.objs.size
  toks : 0 < s'.toks
  bare : AllBare s'.gens
section
variable {prog : Program} {w : World} {h₀ : Heap} {GL : List (Str × G)} {F : Nat -> List PV -> Option PV} {fa : Nat -> Addr} {B : Nat}
variable {A : Around} {cx : Cx} {asg : List Str} {env : Env} {s s' : Shared} {Na No Ng : Addr -> Prop} {pe : PEnv} {E : Value -> Shared -> Prop}
theorem EnvR.again (X : EnvR prog w h₀ cx asg env s Na No pe) (hsc : ∀ i p, lk pe i = some p -> p.scalar = true) (hown : cx.own = []) (htk : cx.tk = []) (hloc : ∀ x, env.kindOf x ≠ some .cell /\ env.kindOf x ≠ some .free)
    (hL : Later h₀ Ng s s') (hNg : Ng env.locals) {Na' No' : Addr -> Prop} (hN : ∀ b, Na' b \/ No' b -> h₀.objs.size <= b /\ b < s'.heap.objs.size) (hNL : No' env.locals) (hdj : ∀ b, No' b -> ¬ Na' b) : EnvR prog w h₀ cx asg env s' Na' No' pe := by
  have hns : ∀ m, s.heap.Ns env.locals m -> s'.heap.Ns env.locals m := fun m h => let ⟨o, es, ep, x, q⟩ := h; ⟨o, es, ep, hL.own _ _ hNg x, q⟩; have hB : ∀ y v, BindAt env s.heap y v -> BindAt env s'.heap y v := fun y v h => by
    cases h with
    | loc m a b c => exact .loc m a (hns m b) c
    | cell c a => rcases a with a | a <;> exact absurd a (by first | exact (hloc y).1 | exact (hloc y).2)
  exact {
    base := { keep := hL.keep, above := fun b q => (hN b q).1, size := Nat.le_trans X.base.size hL.grow, low := fun b q => (hN b q).2, toks := hL.toks, bare := hL.bare }
    kind := X.kind
    glb := X.glb
    blt := X.blt
    gl := X.gl
    cl := fun y hy => by
      obtain ⟨h1, _⟩ := X.cl y hy; rcases h1 with h1 | h1
      · exact absurd h1 (hloc y).1
      · exact absurd h1 (hloc y).2
    ns := let ⟨m, hm⟩ := X.ns; ⟨m, hns m hm⟩
    noL := hNL
    apart := X.apart
    cellsLow := fun y c h => Nat.lt_of_lt_of_le (X.cellsLow y c h) hL.grow
    vars := fun y i p h1 h2 => by
      obtain ⟨v, hb, hs⟩ := X.vars y i p h1 h2; refine ⟨v, hB y v hb, ?_, fun h => by rw [htk] at h; cases h⟩; have h3 := hs.1; rw [hown] at h3 ⊢; simp only [List.contains_nil, Bool.false_eq_true, if_false] at h3 ⊢; exact h3.of_scalar (hsc i p h2)
    stores := fun y hy => by
      cases X.stores y hy with
      | loc h => exact .loc h
      | cell c v₀ h1 => exact absurd h1 (hloc y).1
    inj := X.inj
    alone := fun y z i j a h1 h2 h3 h4 h5 => by rw [hown] at h5; cases h5
    disj := hdj
    turns := fun y i a h1 h2 => by rw [hown] at h2; cases h2 }
def gvars : List (Str × Nat) := [("addr", 0), ("pos", 1), ("escape", 2), ("ch", 3)]
def gcx (sc : Scope) : Cx := ⟨gvars, sc.names, [], [], true⟩
def bs : PE := .cst (.str ⟨#[92]⟩)
def gE1 : PEs := .cons (.var 1) (.cons (.bin .Add bs (.var 3)) .nil)
def gE2 : PEs := .cons (.var 1) (.cons (.var 3) .nil)
def gE3 : PEs := .cons (.var 1) (.cons bs .nil)
def chkY (GL : List (Str × G)) (cx : Cx) (e : PySem.Expr) (ps : PEs) : Bool := match e with
  | .Tuple xs _ _ => chkEs GL cx false xs ps && decide (xs.length <= 100)
  | _ => false
def chkGen (GL : List (Str × G)) (body : List Stmt) (sc : Scope) : Bool :=
  sc.kind == .function && sc.isGenerator && !sc.isCoroutine && nodupB (sc.names.map (·.1)) && sc.names.all (fun nk => nk.2 == .local || nk.2 == .globalImplicit) && sc.names.lookup ("addr" : Str) == some .local &&
  match body with
  | [s1, s2, .For tgt (.Call g [a] [] cpos) [.If t1 [.Expr (.Yield (some y1) yp1) ep1, s3] [.If t2 [s4] [.Expr (.Yield (some y2) yp2) ep2] ip2] ip1] [] fpos, .If t3 [.Expr (.Yield (some y3) yp3) ep3] [] ip3] =>
    chkS GL (gcx sc) (asgOf sc) s1 (.asg 1 (.cst (.int 0))) && chkS GL (gcx sc) (asgOf sc) s2 (.asg 2 (.cst (.bool false))) && chkT (gcx sc) (asgOf sc) tgt [1, 3] && globB GL (gcx sc) g isEnumG && notStar a && chkE GL (gcx sc) false a (.var 0) &&
    chkE GL (gcx sc) true t1 (.var 2) && chkY GL (gcx sc) y1 gE1 && chkS GL (gcx sc) (asgOf sc) s3 (.asg 2 (.cst (.bool false))) && chkE GL (gcx sc) true t2 (.cmp .Eq (.var 3) bs) && chkS GL (gcx sc) (asgOf sc) s4 (.asg 2 (.cst (.bool true))) &&
    chkY GL (gcx sc) y2 gE2 && chkE GL (gcx sc) true t3 (.var 2) && chkY GL (gcx sc) y3 gE3
  | _ => false
def Handed (prog : Program) (w : World) (Ng : Addr -> Prop) (s₀ s' : Shared) (v : Value) (p : PV) : Prop :=
  ∃ T vs l, v = .ref T /\ p = .tup l /\ ¬ Ng T /\ s₀.heap.objs.size <= T /\ PlainTup s'.heap T (List.toArray vs) /\ ∀ (h : Heap) (N : Addr -> Prop), RVs prog w h N vs l
def gY (prog : Program) (w : World) (h₀ : Heap) (Ng : Addr -> Prop) (items : List PV) : Protocol := fun m s₀ v s' kap =>
  m < items.length /\ (∃ p, items[items.length - (m + 1)]? = some p /\ Handed prog w Ng s₀ s' v p) /\ Ext s₀ Ng s' Ng /\ ∀ s'', Later h₀ Ng s' s'' -> kap (.send .none) s''
def gP (Ng : Addr -> Prop) : Nat -> Shared -> Shared -> Prop := fun n s₀ s' => n = 0 /\ Ext s₀ Ng s' Ng
theorem RVs.allScalar {h : Heap} {N : Addr -> Prop} {vs : List Value} {l : List PV} (r : RVs prog w h N vs l) (hs : ∀ p ∈ l, p.scalar = true) : ∀ (h' : Heap) (N' : Addr -> Prop), RVs prog w h' N' vs l := by
  intro h' N'
  induction l generalizing vs with
  | nil => cases r; exact .nil
  | cons p l ih => cases r with | cons a b => exact .cons (a.of_scalar (hs p (by simp))) (ih b fun q hq => hs q (by simp [hq]))
theorem seg_yieldT (hB : 3 <= B) (GK : Glo prog w h₀ GL fa) (FK : FunOK prog w h₀ F fa B) {c : Code} {fs : List Frame} {K : Flow -> Sem Fin} {H : Value -> Sem Fin} {gd : Bool -> Bool} {lv : List Value -> List Value} {n : Nat} {s₀ : Shared} {y : PySem.Expr} {yp ep : Pos} {ps : PEs} {l : List PV} {items : List PV} {R : GenEnd}
    (hfs : splitAtGen fs = none) (hgd : gd false = false) (hfg : fs.any Frame.guarded = false) (Rm : Room (A.over c fs) (nds ps + B)) (X : EnvR prog w h₀ cx asg env s Na No pe) (hc : chkY GL cx y ps = true) (hd : denEs F ps pe = some l) (hsc : ∀ p ∈ l, p.scalar = true)
    (hn : n < items.length) (hit : items[items.length - (n + 1)]? = some (.tup l)) (hext : Ext s₀ Ng s Ng) (hNg : ∀ b, Ng b -> b < s.heap.objs.size) (hco : env.scope.isCoroutine = false)
    (hK : ∀ s' s'', Pure s s' -> Later h₀ Ng s' s'' -> Seg (model prog w) A R (gY prog w h₀ Ng items) n s'' c (K .next) fs s'') :
    Seg (model prog w) A R (gY prog w h₀ Ng items) (n + 1) s₀ c ((exec (.Expr (.Yield (some y) yp) ep) env).wrap K H gd lv) fs s := by
  unfold chkY at hc; split at hc
  · simp only [Bool.and_eq_true, decide_eq_true_eq] at hc; refine seg_Expr_Yield hfs hgd hfg (wpAny_Tuple (evals_sound (allTrueE hB GK FK ps) Rm X hc.1 hd fun vs s₁ P₁ r₁ a₁ f₁ hl => ⟨by unfold sizeLine; omega, ?_⟩)) hco (not_inter X); intro kap hkap; have P₂ : Pure s { s₁ with heap := s₁.heap.push { cls := .type "tuple", data := .seq vs.toArray } } := P₁.trans (Pure.push s₁ _ (Nat.le_refl _)); refine ⟨hn, ⟨_, hit, s₁.heap.objs.size, vs, l, rfl, rfl, fun q => absurd (hNg _ q) (Nat.not_lt.mpr P₁.step.grow), Nat.le_trans hext.step.grow P₁.step.grow, ⟨0, Heap.get?_push_size _ rfl⟩, (f₁ rfl).allScalar hsc⟩, hext.trans (P₂.toExt fun b q => .inl q), fun s'' hL => hkap _ _ ?_⟩; exact hK _ _ P₂ hL
  · cases hc
end
end Mine
end
section
open PySem PySem.W PyProof.Rows
namespace Mine
section
variable {prog : Program} {w : World} {h₀ : Heap} {GL : List (Str × G)} {F : Nat -> List PV -> Option PV} {fa : Nat -> Addr} {B : Nat}
variable {A : Around} {cx : Cx} {asg : List Str} {env : Env} {s s' : Shared} {Na No Ng : Addr -> Prop} {pe : PEnv} {E : Value -> Shared -> Prop}
theorem bind_pair {es : List PySem.Expr} {k : Nat} {tp : Pos} {ts : List Nat} {T : Addr} {vs : List Value} {l : List PV} {pe' : PEnv} {Q : Unit -> Shared -> Prop} (hh : A.handled = none) (X : EnvR prog w h₀ cx asg env s Na No pe) (hc : chkNs cx asg es ts = true)
    (hT : s.heap.IsTuple T vs.toArray) (hl : ∀ (h : Heap) (N : Addr -> Prop), RVs prog w h N vs l) (hb : bindAll ts l pe = some pe') (hQ : ∀ s', Ext s No s' No -> EnvR prog w h₀ cx asg env s' Na No pe' -> Q () s') : wpAny (model prog w) A (assign (.Tuple es k tp) env (.ref T)) Q E s := by
  obtain ⟨h1, h2', h3, h4⟩ := chkNs_acts (env := env) (prog := prog) (w := w) (h₀ := h₀) hc; rw [PyProof.Rows.assign_Tuple]; refine wpAny_bind (wpAny_standAt ?_); unfold unpack; rw [h1, h2']; have e : ts.length = vs.toArray.size := by rw [<- bindAll_len hb, <- (hl s.heap No0).length]; simp
  rw [e]; refine wpAny_bind (wpAny_holding (wpAny_mon (wpAny_unpackItems_tuple hh hT fun h' he hm => ?_))); have P : Pure s { s with heap := h' } := Pure.mk' (t := s.toks) (fun b o e => he b o (Nat.ne_of_lt (Heap.lt_size e)) e) hm; exact inOrder (by simp [h1]) h4 (X.pure P) (hl _ _) hb fun s' e' X' => hQ _ ((P.toExt fun b q => .inl q).trans e') X'
def gpe (x : Str) (posv : Int) (esc : Bool) (ch : Option PV) : PEnv := [some (.str x), some (.int posv), some (.bool esc), ch]
theorem gpe_scalar {x : Str} {posv : Int} {esc : Bool} {ch : Option PV} (hch : ∀ p, ch = some p -> p.scalar = true) : ∀ i p, lk (gpe x posv esc ch) i = some p -> p.scalar = true := by
  intro i p h; unfold gpe at h
  match i with
  | 0 => simp only [lk, Option.some.injEq] at h; subst h; rfl
  | 1 => simp only [lk, Option.some.injEq] at h; subst h; rfl
  | 2 => simp only [lk, Option.some.injEq] at h; subst h; rfl
  | 3 => simp only [lk] at h; exact hch p h
  | n + 4 => simp [lk] at h
structure GParts (GL : List (Str × G)) (sc : Scope) where
  es : List PySem.Expr
  ek : Nat
  ep : Pos
  t1 : PySem.Expr
  y1 : PySem.Expr
  yp1 : Pos
  ep1 : Pos
  s3 : Stmt
  t2 : PySem.Expr
  s4 : Stmt
  y2 : PySem.Expr
  yp2 : Pos
  ep2 : Pos
  ip1 : Pos
  ip2 : Pos
  hes : chkNs (gcx sc) (asgOf sc) es [1, 3] = true
  h1 : chkE GL (gcx sc) true t1 (.var 2) = true
  h2 : chkY GL (gcx sc) y1 gE1 = true
  h3 : chkS GL (gcx sc) (asgOf sc) s3 (.asg 2 (.cst (.bool false))) = true
  h4 : chkE GL (gcx sc) true t2 (.cmp .Eq (.var 3) bs) = true
  h5 : chkS GL (gcx sc) (asgOf sc) s4 (.asg 2 (.cst (.bool true))) = true
  h6 : chkY GL (gcx sc) y2 gE2 = true
def GParts.tgt {GL : List (Str × G)} {sc : Scope} (p : GParts GL sc) : PySem.Expr := .Tuple p.es p.ek p.ep
def GParts.body {GL : List (Str × G)} {sc : Scope} (p : GParts GL sc) : List Stmt :=
  [.If p.t1 [.Expr (.Yield (some p.y1) p.yp1) p.ep1, p.s3] [.If p.t2 [p.s4] [.Expr (.Yield (some p.y2) p.yp2) p.ep2] p.ip2] p.ip1]
theorem item_at {items l : List PV} {a : PV} {n : Nat} (h : items.drop (items.length - (n + 1)) = a :: l) (hl : l.length = n) : n < items.length /\ items[items.length - (n + 1)]? = some a /\ items.drop (items.length - n) = l := by
  have hlen := congrArg List.length h; simp only [List.length_drop, List.length_cons] at hlen; have hn : n < items.length := by omega
  refine ⟨hn, ?_, ?_⟩
  · have := congrArg (·[0]?) h
    simpa [List.getElem?_drop] using this
  · have e : items.length - n = items.length - (n + 1) + 1 := by omega
    rw [e, <- List.drop_drop, h]; simp
set_option maxHeartbeats 1600000 in
theorem gen_loop (hB : 3 <= B) (GK : Glo prog w h₀ GL fa) (FK : FunOK prog w h₀ F fa B) {sc : Scope} {genv : Env} (hsc : genv.scope = sc) (hco : sc.isCoroutine = false) (hloc : ∀ x, genv.kindOf x ≠ some .cell /\ genv.kindOf x ≠ some .free)
    (p : GParts GL sc) {fbody : List Stmt} {Kfr : Result -> Sem Fin} {lfr : List Value} {pfr : Pos} {e it : Addr} {x : Str} {tx : Tok} {items : List PV} (Rm : Room A (B + 10)) (hei : e ≠ it) (heL : e ≠ genv.locals) (hiL : it ≠ genv.locals) (hx : x.length <= 10000)
    (he0 : h₀.objs.size <= e) (hi0 : h₀.objs.size <= it)
    (hEnd : ∀ s s₀ n posv esc ch, EnvR prog w h₀ (gcx sc) (asgOf sc) genv s (fun b => b = e \/ b = it) (fun b => b = genv.locals) (gpe x posv esc ch) -> (∀ p, ch = some p -> p.scalar = true) -> (0 < x.cps.size -> posv = (x.cps.size : Int) - 1) -> (x.cps.size = 0 -> esc = false) ->
      items.drop (items.length - n) = escF x.cps.size esc [] -> n = (escF x.cps.size esc []).length -> Ext s₀ (fun b => b = genv.locals \/ b = e \/ b = it) s (fun b => b = genv.locals \/ b = e \/ b = it) ->
      Seg (model prog w) A.in1 (fun n s₀ r s₁ => r = .ok (.ret .none) /\ gP (fun b => b = genv.locals \/ b = e \/ b = it) n s₀ s₁) (gY prog w h₀ (fun b => b = genv.locals \/ b = e \/ b = it) items) n s₀ (.func fbody genv) (Kfr (.ok .next)) [] s) :
    ∀ (rest : List Nat) (k : Nat) (s s₀ : Shared) (n : Nat) (posv : Int) (esc : Bool) (ch : Option PV), x.cps.toList.drop k = rest -> k <= x.cps.size -> EnvR prog w h₀ (gcx sc) (asgOf sc) genv s (fun b => b = e \/ b = it) (fun b => b = genv.locals) (gpe x posv esc ch) ->
      (∀ p, ch = some p -> p.scalar = true) -> (0 < k -> posv = (k : Int) - 1) -> (k = 0 -> esc = false) -> items.drop (items.length - n) = escF k esc rest -> n = (escF k esc rest).length -> Ext s₀ (fun b => b = genv.locals \/ b = e \/ b = it) s (fun b => b = genv.locals \/ b = e \/ b = it) ->
      ((∃ old, IsEnum s.heap e it k old) /\ s.heap.IsStrIter it "str_ascii_iterator" x tx k) ->
      Seg (model prog w) A.in1 (fun n s₀ r s₁ => r = .ok (.ret .none) /\ gP (fun b => b = genv.locals \/ b = e \/ b = it) n s₀ s₁) (gY prog w h₀ (fun b => b = genv.locals \/ b = e \/ b = it) items) n s₀ (.forLoop p.tgt (.ref e) p.body [] genv) ((model prog w).den (.forLoop p.tgt (.ref e) p.body [] genv)) [.ret Kfr none false lfr (.func fbody genv) pfr []] s := by
  have Ro : Room (A.in1.over (.forLoop p.tgt (.ref e) p.body [] genv) [.ret Kfr none false lfr (.func fbody genv) pfr []]) (B + 8) := room_g2 Rm; have W := WalksT.enumerateD (prog := prog) (w := w) (A := A.in1.over (.forLoop p.tgt (.ref e) p.body [] genv) [.ret Kfr none false lfr (.func fbody genv) pfr []]) (Draws.strAscii (prog := prog) (w := w) (A := (A.in1.over (.forLoop p.tgt (.ref e) p.body [] genv) [.ret Kfr none false lfr (.func fbody genv) pfr []]).in1) Ro.hh it x tx) e hei (by simpa using hei) (by simp); have again : ∀ {s s' : Shared} {posv : Int} {esc : Bool} {ch : Option PV}, EnvR prog w h₀ (gcx sc) (asgOf sc) genv s (fun b => b = e \/ b = it) (fun b => b = genv.locals) (gpe x posv esc ch) -> (∀ p, ch = some p -> p.scalar = true) -> Later h₀ (fun b => b = genv.locals) s s' ->
      EnvR prog w h₀ (gcx sc) (asgOf sc) genv s' (fun b => b = e \/ b = it) (fun b => b = genv.locals) (gpe x posv esc ch) := fun X hch hl => X.again (gpe_scalar hch) rfl rfl hloc hl rfl
        (fun b q => ⟨X.base.above b q, Nat.lt_of_lt_of_le (X.base.low b q) hl.grow⟩) rfl (fun b q1 q2 => q2.elim (fun q => heL (q.symm.trans q1)) fun q => hiL (q.symm.trans q1))
  have reset : ∀ {s : Shared} {No₁ : Addr -> Prop} {posv : Int} {esc : Bool} {ch : Option PV}, EnvR prog w h₀ (gcx sc) (asgOf sc) genv s (fun b => b = e \/ b = it) No₁ (gpe x posv esc ch) -> (∀ p, ch = some p -> p.scalar = true) ->
      EnvR prog w h₀ (gcx sc) (asgOf sc) genv s (fun b => b = e \/ b = it) (fun b => b = genv.locals) (gpe x posv esc ch) := fun {s _ _ _ _} X hch => X.again (s' := s) (Ng := fun b => b = genv.locals) (gpe_scalar hch) rfl rfl hloc ⟨fun b o _ h => h, X.base.keep, Nat.le_refl _, X.base.toks, X.base.bare⟩ rfl
        (fun b q => q.elim (fun q => ⟨X.base.above b (.inl q), X.base.low b (.inl q)⟩) fun q => ⟨by rw [q]; exact X.base.above _ (.inr X.noL), by rw [q]; exact X.base.low _ (.inr X.noL)⟩) rfl (fun b q1 q2 => q2.elim (fun q => heL (q.symm.trans q1)) fun q => hiL (q.symm.trans q1))
  intro rest
  induction rest with
  | nil =>
    intro k s s₀ n posv esc ch hr hk X hch hp hk0 hit hn hext hst; have hks : k = x.cps.size := by
      have := congrArg List.length hr; simp at this; omega
    subst hks; refine seg_forLoop fun E => wpAny_mon (W.done s _ _ hst fun h' tk hkp hm => ?_); refine seg_loopEnd (hEnd _ s₀ n posv esc ch (again X hch ⟨fun b o hb ho => hkp b o ?_ ho, fun b o ho => hkp b o ?_ (X.base.keep b o ho), hm.1, Nat.lt_of_lt_of_le X.base.toks hm.2, X.base.bare⟩) hch hp hk0 hit hn (hext.trans ⟨⟨fun b o hb ho => hkp b o ?_ ho, hm.1, fun b q => .inl q⟩, fun _ _ h => h, id, rfl, rfl, hm.2⟩))
    · subst hb; simp [Ne.symm heL, Ne.symm hiL]
    · have := Heap.lt_size ho; simp only [List.mem_cons, List.not_mem_nil, or_false, not_or]; exact ⟨fun q => absurd this (Nat.not_lt.mpr (q ▸ he0)), fun q => absurd this (Nat.not_lt.mpr (q ▸ hi0))⟩
    · simp only [List.mem_cons, List.not_mem_nil, or_false, not_or]; exact ⟨fun q => hb (.inr (.inl q)), fun q => hb (.inr (.inr q))⟩
  | cons c rest ih =>
    intro k s s₀ n posv esc ch hr hk X hch hp hk0 hit hn hext hst; have hlt : k < x.cps.size := by
      have := congrArg List.length hr; simp at this; omega
    have hck : x.cps[k]? = some c := by
      have := congrArg (·[0]?) hr
      simpa [List.getElem?_drop] using this
    have hr' : x.cps.toList.drop (k + 1) = rest := by rw [<- List.drop_drop, hr]; rfl
    have wr : ∀ b, b ∉ [e, it] <-> b ≠ e /\ b ≠ it := fun b => by simp
    have h0wr : ∀ b o, h₀.get? b = some o -> b ∉ [e, it] := fun b o ho => by
      have := Heap.lt_size ho; rw [wr]; exact ⟨fun q => absurd this (Nat.not_lt.mpr (q ▸ he0)), fun q => absurd this (Nat.not_lt.mpr (q ▸ hi0))⟩
    have hLwr : genv.locals ∉ [e, it] := by rw [wr]; exact ⟨Ne.symm heL, Ne.symm hiL⟩
    refine seg_forLoop fun E => wpAny_mon (W.item k s _ _ hlt hst fun T vals h₁ tk hPt hTs hTup hMid hkp hm => ?_); obtain ⟨ti, v, ⟨c', u, hc', rfl⟩, rfl⟩ := hPt; rw [hck] at hc'; cases hc'; have hTwr := W.apart _ _ _ hMid; have L₁ : Later h₀ (fun b => b = genv.locals) s { s with heap := h₁, toks := tk } := ⟨fun b o hb ho => by subst hb; exact hkp _ o hLwr ho, fun b o ho => hkp b o (h0wr b o ho) (X.base.keep b o ho), hm.1, Nat.lt_of_lt_of_le X.base.toks hm.2, X.base.bare⟩; have X₁ := again X hch L₁; have ext₁ : Ext s (fun b => b = genv.locals \/ b = e \/ b = it) { s with heap := h₁, toks := tk } (fun b => b = genv.locals \/ b = e \/ b = it) :=
      ⟨⟨fun b o hb ho => hkp b o ((wr b).mpr ⟨fun q => hb (.inr (.inl q)), fun q => hb (.inr (.inr q))⟩) ho, hm.1, fun b q => .inl q⟩, fun _ _ h => h, id, rfl, rfl, hm.2⟩
    dsimp only
    refine wpAny_mon (W.go p.es p.ek p.ep k T _ _ _ hMid fun h₂ hst₂ hk₂ hm₂ => ?_); have L₂ : Later h₀ (fun b => b = genv.locals) { s with heap := h₁, toks := tk } { s with heap := h₂, toks := tk } := ⟨fun b o hb ho => by subst hb; exact hk₂ _ o hLwr ho, fun b o ho => hk₂ b o (h0wr b o ho) (X₁.base.keep b o ho), hm₂.1, X₁.base.toks, X.base.bare⟩; have X₂ := again X₁ hch L₂; have ext₂ : Ext { s with heap := h₁, toks := tk } (fun b => b = genv.locals \/ b = e \/ b = it) { s with heap := h₂, toks := tk } (fun b => b = genv.locals \/ b = e \/ b = it) :=
      ⟨⟨fun b o hb ho => hk₂ b o ((wr b).mpr ⟨fun q => hb (.inr (.inl q)), fun q => hb (.inr (.inr q))⟩) ho, hm₂.1, fun b q => .inl q⟩, fun _ _ h => h, id, rfl, rfl, hm₂.2⟩
    have hTup₂ : h₂.IsTuple T ([Value.int k ti, .str ⟨#[c]⟩ u] : List Value).toArray := let ⟨o, q1, q2⟩ := hTup; ⟨o, hk₂ T o hTwr q1, q2⟩; refine bind_pair Ro.hh X₂ p.hes hTup₂ (l := [.int k, .str ⟨#[c]⟩]) (fun h N => .cons (.int _ _) (.cons (.str _ _) .nil)) (pe' := gpe x k esc (some (.str ⟨#[c]⟩))) rfl fun s₃ he₃ X₃ => ?_; have hch' : ∀ p, (some (PV.str ⟨#[c]⟩)) = some p -> p.scalar = true := fun p h => by cases h; rfl
    have keep₃ : ∀ b o, b ≠ genv.locals -> h₂.get? b = some o -> s₃.heap.get? b = some o := fun b o hb ho => he₃.step.keep b o hb ho; have st₃ : (∃ old, IsEnum s₃.heap e it (k + 1 : Nat) old) /\ s₃.heap.IsStrIter it "str_ascii_iterator" x tx (k + 1) := W.frame _ _ _ hst₂ fun b hb o ho => keep₃ b o (by
      simp only [List.mem_cons, List.not_mem_nil, or_false] at hb; rcases hb with rfl | rfl
      · exact heL
      · exact hiL) ho
    have ext₃ : Ext s₀ (fun b => b = genv.locals \/ b = e \/ b = it) s₃ (fun b => b = genv.locals \/ b = e \/ b = it) := by
      refine (hext.trans (ext₁.trans ext₂)).trans ⟨⟨fun b o hb ho => he₃.step.keep b o (fun q => hb (.inl q)) ho, he₃.step.grow, fun b q => .inl q⟩, he₃.gens, he₃.bare, he₃.os, he₃.drawn, he₃.toks⟩
    have NgLow : ∀ {s' : Shared}, EnvR prog w h₀ (gcx sc) (asgOf sc) genv s' (fun b => b = e \/ b = it) (fun b => b = genv.locals) (gpe x k esc (some (.str ⟨#[c]⟩))) -> ∀ b, (b = genv.locals \/ b = e \/ b = it) -> b < s'.heap.objs.size :=
      fun X b q => q.elim (fun q => X.base.low b (.inr q)) fun q => X.base.low b (.inl q)
    have TE := fun q => evalTrue hB GK FK q; have hkk : (0 < k + 1 -> (k : Int) = ((k + 1 : Nat) : Int) - 1) := fun _ => by push_cast; omega
    have hcog : genv.scope.isCoroutine = false := by rw [hsc]; exact hco
    show Seg _ _ _ _ n s₀ _ ((execs [.If p.t1 [.Expr (.Yield (some p.y1) p.yp1) p.ep1, p.s3] [.If p.t2 [p.s4] [.Expr (.Yield (some p.y2) p.yp2) p.ep2] p.ip2] p.ip1] genv).wrap _ _ _ _) _ s₃; refine seg_execs_cons (seg_If ((TE (.var 2)).2 (r := esc) (Ro.le (by simp only [nd]; omega)) X₃ p.h1 rfl fun s₄ P₄ => ?_)); have X₄ := X₃.pure P₄; have ext₄ := ext₃.trans (P₄.toExt (No := fun b => b = genv.locals \/ b = e \/ b = it) (No' := fun b => b = genv.locals \/ b = e \/ b = it) fun b q => .inl q); have st₄ : (∃ old, IsEnum s₄.heap e it (k + 1 : Nat) old) /\ s₄.heap.IsStrIter it "str_ascii_iterator" x tx (k + 1) := W.frame _ _ _ st₃ fun b _ o ho => Pure.keep P₄ b o ho; have eL : ∀ b, (b = e \/ b = it) -> b ≠ genv.locals := fun b q => q.elim (fun q => q ▸ heL) fun q => q ▸ hiL; have back : ∀ (s₅ s₀' : Shared) (n' : Nat) (esc' : Bool), EnvR prog w h₀ (gcx sc) (asgOf sc) genv s₅ (fun b => b = e \/ b = it) (fun b => b = genv.locals) (gpe x k esc' (some (.str ⟨#[c]⟩))) -> items.drop (items.length - n') = escF (k + 1) esc' rest -> n' = (escF (k + 1) esc' rest).length ->
        Ext s₀' (fun b => b = genv.locals \/ b = e \/ b = it) s₅ (fun b => b = genv.locals \/ b = e \/ b = it) -> ((∃ old, IsEnum s₅.heap e it (k + 1 : Nat) old) /\ s₅.heap.IsStrIter it "str_ascii_iterator" x tx (k + 1)) ->
        Seg (model prog w) A.in1 (fun n s₀ r s₁ => r = .ok (.ret .none) /\ gP (fun b => b = genv.locals \/ b = e \/ b = it) n s₀ s₁) (gY prog w h₀ (fun b => b = genv.locals \/ b = e \/ b = it) items) n' s₀' (.forLoop p.tgt (.ref e) p.body [] genv) (.pure (.again (.forLoop p.tgt (.ref e) p.body [] genv))) [.ret Kfr none false lfr (.func fbody genv) pfr []] s₅ :=
      fun s₅ s₀' n' esc' X₅ h1 h2 h3 h4 => seg_again rfl (ih (k + 1) s₅ s₀' n' k esc' (some (.str ⟨#[c]⟩)) hr' hlt X₅ hch' hkk (fun q => by omega) h1 h2 h3 h4)
    have flag : ∀ (s₅ s₀' : Shared) (n' : Nat) (esc₀ esc' : Bool) (stm : Stmt) (K' : Flow -> Sem Fin) (H' : Value -> Sem Fin) (gd' : Bool -> Bool) (lv' : List Value -> List Value), chkS GL (gcx sc) (asgOf sc) stm (.asg 2 (.cst (.bool esc'))) = true ->
        EnvR prog w h₀ (gcx sc) (asgOf sc) genv s₅ (fun b => b = e \/ b = it) (fun b => b = genv.locals) (gpe x k esc₀ (some (.str ⟨#[c]⟩))) -> items.drop (items.length - n') = escF (k + 1) esc' rest -> n' = (escF (k + 1) esc' rest).length ->
        Ext s₀' (fun b => b = genv.locals \/ b = e \/ b = it) s₅ (fun b => b = genv.locals \/ b = e \/ b = it) -> ((∃ old, IsEnum s₅.heap e it (k + 1 : Nat) old) /\ s₅.heap.IsStrIter it "str_ascii_iterator" x tx (k + 1)) ->
        K' .next = .pure (.again (.forLoop p.tgt (.ref e) p.body [] genv)) ->
        Seg (model prog w) A.in1 (fun n s₀ r s₁ => r = .ok (.ret .none) /\ gP (fun b => b = genv.locals \/ b = e \/ b = it) n s₀ s₁) (gY prog w h₀ (fun b => b = genv.locals \/ b = e \/ b = it) items) n' s₀' (.forLoop p.tgt (.ref e) p.body [] genv) ((exec stm genv).wrap K' H' gd' lv') [.ret Kfr none false lfr (.func fbody genv) pfr []] s₅ := by
      intro s₅ s₀' n' esc₀ esc' stm K' H' gd' lv' hc X₅ h1 h2 h3 h4 hK'; refine seg_exec (exec_asg (fun p => (evalTrue hB GK FK p).1) (fun p => (evalTrue hB GK FK p).2) (fun p => iterAll hB GK FK p) 2 (.cst (.bool esc')) rfl (Ro.le (by simp only [ns, nd]; omega)) X₅ hc (pe' := gpe x k esc' (some (.str ⟨#[c]⟩))) (fl := .next) rfl fun f s₆ No₆ e₆ X₆ hf => ?_); cases hf; rw [hK']; refine back s₆ s₀' n' esc' (reset X₆ hch') h1 h2 (h3.trans ⟨⟨fun b o hb ho => e₆.step.keep b o (fun q => hb (.inl q)) ho, e₆.step.grow, fun b q => .inl q⟩, e₆.gens, e₆.bare, e₆.os, e₆.drawn, e₆.toks⟩) (W.frame _ _ _ h4 fun b hb o ho => e₆.step.keep b o (eL b (by simpa using hb)) ho)
    have later : ∀ {s₅ s₆ : Shared} {esc₀ : Bool}, Pure s₄ s₅ -> Later h₀ (fun b => b = genv.locals \/ b = e \/ b = it) s₅ s₆ -> EnvR prog w h₀ (gcx sc) (asgOf sc) genv s₄ (fun b => b = e \/ b = it) (fun b => b = genv.locals) (gpe x k esc₀ (some (.str ⟨#[c]⟩))) ->
        EnvR prog w h₀ (gcx sc) (asgOf sc) genv s₆ (fun b => b = e \/ b = it) (fun b => b = genv.locals) (gpe x k esc₀ (some (.str ⟨#[c]⟩))) /\ ((∃ old, IsEnum s₆.heap e it (k + 1 : Nat) old) /\ s₆.heap.IsStrIter it "str_ascii_iterator" x tx (k + 1)) := by
      intro s₅ s₆ esc₀ P₅ L₆ X; exact ⟨again (X.pure P₅) hch' ⟨fun b o hb ho => L₆.own b o (.inl hb) ho, L₆.keep, L₆.grow, L₆.toks, L₆.bare⟩, W.frame _ _ _ st₄ fun b hb o ho => L₆.own b o (.inr (by simpa using hb)) (Pure.keep P₅ b o ho)⟩
    cases esc with
    | true =>
      simp only [if_true]; have he1 : escF k true (c :: rest) = .tup [.int k, .str ⟨#[92, c]⟩] :: escF (k + 1) false rest := rfl; rw [he1] at hit hn; simp only [List.length_cons] at hn; subst hn; obtain ⟨i1, i2, i3⟩ := item_at hit rfl; refine seg_execs_cons (seg_yieldT hB GK FK (by rfl) (by rfl) (by rfl) (Ro.le (by simp only [gE1, nds, nd, bs]; omega)) X₄ p.h2 (l := [.int k, .str ⟨#[92, c]⟩]) ?_ (by simp [PV.scalar]) i1 i2 ext₄ (NgLow X₄) hcog fun s₅ s₆ P₅ L₆ => ?_)
      · have hl : ((⟨#[92]⟩ : Str).length + (⟨#[c]⟩ : Str).length <= 100000) := by show 1 + 1 <= 100000; omega
        simp only [gE1, denEs, denE, bs, binF, lk, gpe, if_pos hl]; rfl
      · obtain ⟨X₆, st₆⟩ := later P₅ L₆ X₄; exact seg_execs_cons (flag s₆ s₆ _ true false p.s3 _ _ _ _ p.h3 X₆ i3 rfl (Ext.refl _ _) st₆ rfl)
    | false =>
      simp only [Bool.false_eq_true, if_false]; refine seg_execs_cons (seg_If ((TE (.cmp .Eq (.var 3) bs)).2 (r := decide (c = 92)) (Ro.le (by simp only [nd, bs]; omega)) X₄ p.h4 ?_ fun s₅ P₅ => ?_))
      · simp only [denE, bs, lk, gpe, cmpF, eqF, Option.map_some, Option.some.injEq, PV.bool.injEq]
        by_cases h : c = 92
        · subst h; simp
        · rw [decide_eq_false h, beq_eq_false_iff_ne]; intro q; have := congrArg Str.cps q; simp at this; exact h this
      have X₅ := X₄.pure P₅; have ext₅ := ext₄.trans (P₅.toExt (No := fun b => b = genv.locals \/ b = e \/ b = it) (No' := fun b => b = genv.locals \/ b = e \/ b = it) fun b q => .inl q); have st₅ : (∃ old, IsEnum s₅.heap e it (k + 1 : Nat) old) /\ s₅.heap.IsStrIter it "str_ascii_iterator" x tx (k + 1) := W.frame _ _ _ st₄ fun b _ o ho => Pure.keep P₅ b o ho
      by_cases hc92 : c = 92
      · simp only [hc92, decide_true, if_true]; have he1 : escF k false (c :: rest) = escF (k + 1) true rest := by simp only [escF, if_pos hc92]
        rw [he1] at hit hn; exact seg_execs_cons (flag s₅ s₀ n false true p.s4 _ _ _ _ p.h5 X₅ hit hn ext₅ st₅ rfl)
      · simp only [hc92, decide_false, Bool.false_eq_true, if_false]; have he1 : escF k false (c :: rest) = .tup [.int k, .str ⟨#[c]⟩] :: escF (k + 1) false rest := by simp only [escF, if_neg hc92]
        rw [he1] at hit hn; simp only [List.length_cons] at hn; subst hn; obtain ⟨i1, i2, i3⟩ := item_at hit rfl; refine seg_execs_cons (seg_yieldT hB GK FK (by rfl) (by rfl) (by rfl) (Ro.le (by simp only [gE2, nds, nd]; omega)) X₅ p.h6 (l := [.int k, .str ⟨#[c]⟩]) (by simp [gE2, denEs, denE, lk, gpe]) (by simp [PV.scalar]) i1 i2 ext₅ (NgLow X₅) hcog fun s₆ s₇ P₆ L₇ => ?_); obtain ⟨X₇, st₇⟩ := later (P₅.trans P₆) L₇ X₄; exact back s₇ s₇ _ false X₇ i3 rfl (Ext.refl _ _) st₇
end
end Mine
end
section
open PySem PySem.W PyProof.Rows PySem.W.X
namespace Mine
section
variable {M : Model} {A : Around} {c : Code} {fs : List Frame} {s : Shared} {env : Env} {P : End -> Shared -> Prop}
  {K : Flow -> Sem Fin} {H : Value -> Sem Fin} {gd : Bool -> Bool} {lv : List Value -> List Value}
theorem segx_wrap {α : Type} {m : Sem α} {K : α -> Sem Fin} {H : Value -> Sem Fin} {gd : Bool -> Bool} {lv : List Value -> List Value}
    (h : wpAny M (A.over c fs) m (fun a s' => SegX M A c (K a) fs s' P) (fun x s' => SegX M A c (H x) fs s' P) s) : SegX M A c (m.wrap K H gd lv) fs s P := by
  rintro Γ p rfl hΓ
  obtain ⟨e, s', hr, hq⟩ := runs_wrap_of_wp (Φ := fun e s' => e.quiet = true /\ P e s') K H gd lv m (h (Γ.over fs) p (hΓ.over fs)) (fun a p' s' h' => h' Γ p' rfl hΓ) (fun x p' s' h' => h' Γ p' rfl hΓ); exact ⟨e, s', hr, hq⟩
theorem segx_then {α β : Type} {m : Sem α} {f : α -> Sem β} {K : β -> Sem Fin} {H : Value -> Sem Fin} {gd : Bool -> Bool} {lv : List Value -> List Value}
    (h : wpAny M (A.over c fs) m (fun a s' => SegX M A c ((f a).wrap K H gd lv) fs s' P) (fun x s' => SegX M A c (H x) fs s' P) s) : SegX M A c ((m >>= f).wrap K H gd lv) fs s P := by
  rw [Sem.bind_eq_wrap', Sem.wrap_wrap]; exact segx_wrap h
theorem segx_exec {st : Stmt} (h : wpAny M (A.over c fs) (exec st env) (fun f s' => SegX M A c (K f) fs s' P) (fun x s' => SegX M A c (H x) fs s' P) s) :
    SegX M A c ((exec st env).wrap K H gd lv) fs s P := segx_wrap h
theorem segx_execs_cons {st : Stmt} {rest : List Stmt}
    (h : SegX M A c ((exec st env).wrap (fun f => match f with | .next => (execs rest env).wrap K H gd lv | f => K f) H gd lv) fs s P) : SegX M A c ((execs (st :: rest) env).wrap K H gd lv) fs s P := by
  rw [execs_cons_wrap]; exact h
theorem segx_call {c' : Code} {h g l} {k : Result -> Sem Fin} (hc : ∀ p, SegX M A c' (M.den c') (.ret k h g l c p [] :: fs) s P) : SegX M A c (.call c' h g l k) fs s P := by
  rintro Γ p rfl hΓ
  obtain ⟨e, s', hr, he⟩ := hc p (Γ.goto c') p rfl (hΓ.goto c'); exact ⟨e, s', runs_call_seg hr, he⟩
theorem segx_For {target iter : PySem.Expr} {body orelse : List Stmt} {pos : Pos} (hs : ∀ x, foldedSetIterable iter env x = Pure.pure x)
    (h : wpAny M (A.over c fs) (eval iter env) (fun x s₁ => wpAny M (A.over c fs) (pyIter x) (fun it s₂ =>
      ∀ p, SegX M A (.forLoop target it body orelse env) (M.den (.forLoop target it body orelse env))
      (.ret (fun r => ((match r with | .ok f => (.pure f : Sem Flow) | .error e => .raise e).onRaise fun (x : Value) => do
        if (<- field x 1) == Value.none then unsupported "frame.own-activation:exception-without-traceback"
        setFlight x env.frame).wrap K H gd lv) none (gd false) (lv []) c p [] :: fs) s₂ P) (fun x s' => SegX M A c (H x) fs s' P) s₁) (fun x s' => SegX M A c (H x) fs s' P) s) :
    SegX M A c ((exec (.For target iter body orelse pos) env).wrap K H gd lv) fs s P := by
  rw [exec_For]; refine segx_then (wpAny_standAt (segx_then (wpAny_mono h (fun x s₁ h₁ => ?_) fun _ _ h' => h'))); refine segx_then (wpAny_of_eq (hs x) ?_); refine segx_then (wpAny_standAt ?_); refine segx_then (wpAny_holding (wpAny_mono h₁ (fun it s₂ h₂ => ?_) fun _ _ h' => h')); exact segx_call h₂
end
section
variable {prog : Program} {w : World} {A : Around} {fs : List Frame} {s : Shared} {env : Env} {P : End -> Shared -> Prop}
theorem segx_func {body : List Stmt}
    (h : SegX (model prog w) A (.func body env) ((execs body env).wrap (fun f => .pure (.done (.ret (match f with | .ret v => v | _ => .none))))
      (fun e => (leaving env e).wrap (fun _ => .raise e) .raise id id) id id) fs s P) :
    SegX (model prog w) A (.func body env) ((model prog w).den (.func body env)) fs s P := by
  show SegX _ A _ (.point [] fun _ => ((execs body env).onRaise (leaving env)) >>= _) fs s P; refine segx_wrap (m := point) (H := .raise) (gd := id) (lv := fun _ => []) (wpAny_point ?_); rw [Sem.onRaise_eq_wrap, Sem.bind_eq_wrap', Sem.wrap_wrap]; rw [Sem.wrap_congr (execs body env) _ _ (K' := fun f => .pure (.done (.ret (match f with | .ret v => v | _ => .none))))
    (H' := fun e => (leaving env e).wrap (fun _ => .raise e) .raise id id) (fun f => by cases f <;> rfl)
    (fun e => by rw [Sem.bind_eq_wrap, Sem.wrap_wrap]; rfl)]
  exact h
end
def Run (prog : Program) (w : World) (h₀ : Heap) (A : Around) (items : List PV) : Nat -> (Addr -> Prop) -> Code -> Sem Fin -> List Frame -> Shared -> Prop
  | 0 => fun Ng c t fs s => SegX (model prog w) A c t fs s fun e s₁ => ∃ Ng', (∀ b, Ng b -> Ng' b) /\ Ext s Ng s₁ Ng' /\ Low Ng' s₁.heap /\ e = .ret (.ok (.ret .none))
  | n + 1 => fun Ng c t fs s => SegX (model prog w) A c t fs s fun e s₁ => ∃ Ng', (∀ b, Ng b -> Ng' b) /\ Ext s Ng s₁ Ng' /\ Low Ng' s₁.heap /\
      ∃ v g l k c' p fs', e = .susp v g l k c' p fs' /\ n < items.length /\ (∃ q, items[items.length - (n + 1)]? = some q /\ Handed prog w Ng' s s₁ v q) /\
        ∀ s'', Later h₀ Ng' s₁ s'' -> Run prog w h₀ A items n Ng' c' (k (.send .none)) fs' s''
def RunP (prog : Program) (w : World) (h₀ : Heap) (A : Around) (items : List PV) : Nat -> (Addr -> Prop) -> Shared -> End -> Shared -> Prop
  | 0 => fun Ng s e s₁ => ∃ Ng', (∀ b, Ng b -> Ng' b) /\ Ext s Ng s₁ Ng' /\ Low Ng' s₁.heap /\ e = .ret (.ok (.ret .none))
  | n + 1 => fun Ng s e s₁ => ∃ Ng', (∀ b, Ng b -> Ng' b) /\ Ext s Ng s₁ Ng' /\ Low Ng' s₁.heap /\
      ∃ v g l k c' p fs', e = .susp v g l k c' p fs' /\ n < items.length /\ (∃ q, items[items.length - (n + 1)]? = some q /\ Handed prog w Ng' s s₁ v q) /\
        ∀ s'', Later h₀ Ng' s₁ s'' -> Run prog w h₀ A items n Ng' c' (k (.send .none)) fs' s''
theorem run_iff {prog : Program} {w : World} {h₀ : Heap} {A : Around} {items : List PV} {n : Nat} {Ng : Addr -> Prop} {c : Code} {t : Sem Fin} {fs : List Frame} {s : Shared} :
    Run prog w h₀ A items n Ng c t fs s <-> SegX (model prog w) A c t fs s (RunP prog w h₀ A items n Ng s) := by cases n <;> rfl
theorem RunP.back {prog : Program} {w : World} {h₀ : Heap} {A : Around} {items : List PV} {n : Nat} {Ng Ng₂ : Addr -> Prop} {s s₂ : Shared} {e : End} {s₁ : Shared} (h : RunP prog w h₀ A items n Ng₂ s₂ e s₁) (hs : ∀ b, Ng b -> Ng₂ b) (hx : Ext s Ng s₂ Ng₂) : RunP prog w h₀ A items n Ng s e s₁ := by
  cases n with
  | zero =>
    obtain ⟨N, h1, h2, h3, h4⟩ := h; exact ⟨N, fun b q => h1 b (hs b q), hx.trans h2, h3, h4⟩
  | succ n =>
    obtain ⟨N, h1, h2, h3, v, g, l, k, c', p, fs', h4, h5, ⟨q, h6, T, vs, l', a1, a2, a0, a3, a4, a5⟩, h7⟩ := h; exact ⟨N, fun b q => h1 b (hs b q), hx.trans h2, h3, v, g, l, k, c', p, fs', h4, h5, ⟨q, h6, T, vs, l', a1, a2, a0, Nat.le_trans hx.step.grow a3, a4, a5⟩, h7⟩
section
variable {prog : Program} {w : World} {h₀ : Heap} {A : Around} {items : List PV} {Ng : Addr -> Prop}
theorem Base.ext {s s' : Shared} {N : Addr -> Prop} (b : Base h₀ s N) (x : Ext s N s' N) : Base h₀ s' N where
  keep := fun a o e => x.step.keep a o (fun q => by have := b.above a q; have h2 := Heap.lt_size e; exact absurd h2 (Nat.not_lt.mpr this)) (b.keep a o e)
  above := b.above
  size := Nat.le_trans b.size x.step.grow
  low := fun a h => Nat.lt_of_lt_of_le (b.low a h) x.step.grow
  toks := Nat.lt_of_lt_of_le b.toks (Ext.toks x)
  bare := x.bare b.bare
theorem Base.later {s s' : Shared} {N : Addr -> Prop} (b : Base h₀ s N) (x : Later h₀ N s s') : Base h₀ s' N where
  keep := x.keep
  above := b.above
  size := Nat.le_trans b.size x.grow
  low := fun a h => Nat.lt_of_lt_of_le (b.low a h) x.grow
  toks := x.toks
  bare := x.bare
theorem Base.refl {s : Shared} {N : Addr -> Prop} (b : Base h₀ s N) : Later h₀ N s s := ⟨fun _ _ _ h => h, b.keep, Nat.le_refl _, b.toks, b.bare⟩
theorem run_of_seg : ∀ (n : Nat) (c : Code) (t : Sem Fin) (fs : List Frame) (s : Shared), Base h₀ s Ng ->
    Seg (model prog w) A (fun n s₀ r s₁ => r = .ok (.ret .none) /\ gP Ng n s₀ s₁) (gY prog w h₀ Ng items) n s c t fs s -> Run prog w h₀ A items n Ng c t fs s
  | 0, c, t, fs, s, hl, h => by
    intro Γ p hc hΓ; obtain ⟨e, s₁, hr, he⟩ := seg_iff.mp h Γ p hc hΓ; cases e with
    | ret r =>
      obtain ⟨rfl, _, hx⟩ := he; exact ⟨_, s₁, hr, rfl, Ng, fun b q => q, hx, (hl.ext hx).low, rfl⟩
    | susp v g l k c' p' fs' =>
      exfalso; obtain ⟨hq, h1, h2, h3, h4⟩ := he; exact h4 s₁ (hl.ext h3).refl
  | n + 1, c, t, fs, s, hl, h => by
    intro Γ p hc hΓ; obtain ⟨e, s₁, hr, he⟩ := seg_iff.mp h Γ p hc hΓ; cases e with
    | ret r =>
      obtain ⟨_, h0, _⟩ := he; cases h0
    | susp v g l k c' p' fs' =>
      obtain ⟨hq, h1, h2, h3, h4⟩ := he; have hl' := hl.ext h3; exact ⟨_, s₁, hr, hq, Ng, fun b q => q, h3, hl'.low, v, g, l, k, c', p', fs', rfl, h1, h2, fun s'' hL => run_of_seg n c' _ fs' s'' (hl'.later hL) (h4 s'' hL)⟩
end
end Mine
end
section
open PySem PySem.W PyProof.Rows PySem.W.X
namespace Mine
section
variable {prog : Program} {w : World} {h₀ : Heap} {GL : List (Str × G)} {F : Nat -> List PV -> Option PV} {fa : Nat -> Addr} {B : Nat}
variable {A : Around} {cx : Cx} {asg : List Str} {env : Env} {s s' : Shared} {Na No Ng : Addr -> Prop} {pe : PEnv} {E : Value -> Shared -> Prop}
theorem strIter_ascii {x : Str} (h : x.cps.all (· < 128) = true) : strIterType x = "str_ascii_iterator" := by unfold strIterType; rw [if_pos h]
set_option maxHeartbeats 1600000 in
theorem gen_fresh (hB : 3 <= B) (GK : Glo prog w h₀ GL fa) (FK : FunOK prog w h₀ F fa B) {sc : Scope} {body : List Stmt} {genv : Env} (hsc : genv.scope = sc) (hloc : ∀ x, genv.kindOf x ≠ some .cell /\ genv.kindOf x ≠ some .free)
    (hc : chkGen GL body sc = true) {x : Str} (hx : x.length <= 10000) (hasc : x.cps.all (· < 128) = true) (Rm : Room A (B + 10))
    (X : EnvR prog w h₀ (gcx sc) (asgOf sc) genv s (fun _ => False) (fun b => b = genv.locals) [some (.str x), none, none, none]) :
    Run prog w h₀ A.in1 (escF 0 false x.cps.toList) (escF 0 false x.cps.toList).length (fun b => b = genv.locals) (.func body genv) ((model prog w).den (.func body genv)) [] s := by
  unfold chkGen at hc; simp only [Bool.and_eq_true, Bool.not_eq_true'] at hc; obtain ⟨⟨⟨⟨⟨⟨c1, c2⟩, c3⟩, c4⟩, c5⟩, c6⟩, hc⟩ := hc; split at hc
  case h_2 => cases hc
  rename_i s1 s2 tgt g a cpos t1 y1 yp1 ep1 s3 t2 s4 y2 yp2 ep2 ip2 ip1 fpos t3 y3 yp3 ep3 ip3; simp only [Bool.and_eq_true] at hc; obtain ⟨⟨⟨⟨⟨⟨⟨⟨⟨⟨⟨⟨⟨k1, k2⟩, k3⟩, k4⟩, k5⟩, k6⟩, k7⟩, k8⟩, k9⟩, k10⟩, k11⟩, k12⟩, k13⟩, k14⟩ := hc; unfold chkT at k3; simp only at k3; split at k3
  case h_2 => cases k3
  rename_i es ek ep; simp only [Bool.and_eq_true] at k3
  let p : GParts GL sc := ⟨es, ek, ep, t1, y1, yp1, ep1, s3, t2, s4, y2, yp2, ep2, ip1, ip2, k3.1.1, k7, k8, k9, k10, k11, k12⟩
  have Rf : Room (A.in1.over (.func [s1, s2, .For p.tgt (.Call g [a] [] cpos) p.body [] fpos, .If t3 [.Expr (.Yield (some y3) yp3) ep3] [] ip3] genv) []) (B + 8) := room_g1 Rm; have scal : ∀ {pe : PEnv}, (∀ i q, lk pe i = some q -> q.scalar = true) -> True := fun _ => trivial; have reset : ∀ {s : Shared} {No₁ : Addr -> Prop} {pe : PEnv}, (∀ i q, lk pe i = some q -> q.scalar = true) -> EnvR prog w h₀ (gcx sc) (asgOf sc) genv s (fun _ => False) No₁ pe -> EnvR prog w h₀ (gcx sc) (asgOf sc) genv s (fun _ => False) (fun b => b = genv.locals) pe := fun {s _ _} hs X =>
    X.again (s' := s) (Ng := fun b => b = genv.locals) hs rfl rfl hloc ⟨fun b o _ h => h, X.base.keep, Nat.le_refl _, X.base.toks, X.base.bare⟩ rfl (fun b q => q.elim (fun q => q.elim) fun q => ⟨by rw [q]; exact X.base.above _ (.inr X.noL), by rw [q]; exact X.base.low _ (.inr X.noL)⟩) rfl (fun b _ q => q)
  have extL : ∀ {s s' : Shared} {No₁ : Addr -> Prop}, Ext s (fun b => b = genv.locals) s' No₁ -> Ext s (fun b => b = genv.locals) s' (fun b => b = genv.locals) := fun e => ⟨⟨e.step.keep, e.step.grow, fun b q => .inl q⟩, e.gens, e.bare, e.os, e.drawn, e.toks⟩; rw [run_iff]; refine segx_func (segx_execs_cons (segx_exec (exec_asg (fun p => (evalTrue hB GK FK p).1) (fun p => (evalTrue hB GK FK p).2) (fun p => iterAll hB GK FK p) 1 (.cst (.int 0)) rfl (Rf.le (by simp only [ns, nd]; omega)) X k1 (pe' := [some (.str x), some (.int 0), none, none]) (fl := .next) rfl fun f s₁ No₁ e₁ X₁ hf => ?_))); cases hf; have X₁' := reset (by intro i q h; match i with | 0 => simp [lk] at h; subst h; rfl | 1 => simp [lk] at h; subst h; rfl | 2 => simp [lk] at h | 3 => simp [lk] at h | n + 4 => simp [lk] at h) X₁; refine segx_execs_cons (segx_exec (exec_asg (fun p => (evalTrue hB GK FK p).1) (fun p => (evalTrue hB GK FK p).2) (fun p => iterAll hB GK FK p) 2 (.cst (.bool false)) rfl (Rf.le (by simp only [ns, nd]; omega)) X₁' k2 (pe' := gpe x 0 false none) (fl := .next) rfl fun f s₂ No₂ e₂ X₂ hf => ?_)); cases hf; have X₂' := reset (gpe_scalar (fun q h => by cases h)) X₂; have e12 := (extL e₁).trans (extL e₂); obtain ⟨gx, gpos, gg, rfl, q1, q2, q3, q4⟩ := globB_inv k4; have hb : backTo cpos (starEach [a] genv) = [(false, eval a genv)] := by rw [starEach_cons k5]; rfl
  refine segx_execs_cons (segx_For (fun _ => rfl) (wpAny_Call_NameR (glob_sound GK X₂' q1 q2 q3 fun v hv => ?_))); cases gg <;> simp [isEnumG] at q4; subst hv; rw [hb]; refine PyProof.Rows.callWith_type (by rfl) (Calls.evalArgs_plain (Calls.spliced_cons ((evalTrue hB GK FK (.var 0)).1 (Rf.le (by simp only [nd]; omega)) X₂' k6 (r := .str x) rfl fun v s₃ P₃ o₃ => Calls.spliced_nil ?_))); have o3 := o₃.t; cases o3 with
  | str _ tx =>
  have X₃ := X₂'.pure P₃; refine call_enumerate_str fun h' hen hit hsz hkp => ?_; rw [strIter_ascii hasc] at hit; refine wpAny_pyIter_enum hen fun pp => ?_; have hLlow : genv.locals < s₃.heap.objs.size := X₃.base.low _ (.inr rfl); have hL0 : h₀.objs.size <= genv.locals := X₃.base.above _ (.inr rfl); have h0s : h₀.objs.size <= s₃.heap.objs.size := X₃.base.size; have hLa : Later h₀ (fun b => b = genv.locals) s₃ { s₃ with heap := h' } := ⟨fun b o _ ho => hkp b o ho, fun b o ho => hkp b o (X₃.base.keep b o ho), by show s₃.heap.objs.size <= h'.objs.size; omega, X₃.base.toks, X₃.base.bare⟩; have X₄ : EnvR prog w h₀ (gcx sc) (asgOf sc) genv { s₃ with heap := h' } (fun b => b = s₃.heap.objs.size + 1 \/ b = s₃.heap.objs.size) (fun b => b = genv.locals) (gpe x 0 false none) := by
    refine X₃.again (Ng := fun b => b = genv.locals) (gpe_scalar (fun q h => by cases h)) rfl rfl hloc hLa rfl (fun b q => ?_) rfl (fun b q1 q2 => ?_)
    · show _ /\ b < h'.objs.size; rcases q with (q | q) | q
      · exact ⟨by rw [q]; exact Nat.le_succ_of_le h0s, by rw [q, hsz]; exact Nat.lt_succ_self _⟩
      · exact ⟨by rw [q]; exact h0s, by rw [q, hsz]; exact Nat.lt_succ_of_lt (Nat.lt_succ_self _)⟩
      · exact ⟨by rw [q]; exact hL0, by rw [q, hsz]; exact Nat.lt_trans hLlow (Nat.lt_succ_of_lt (Nat.lt_succ_self _))⟩
    · rcases q2 with q2 | q2
      · rw [q1] at q2; rw [q2] at hLlow; exact absurd hLlow (Nat.not_lt.mpr (Nat.le_succ _))
      · rw [q1] at q2; rw [q2] at hLlow; exact Nat.lt_irrefl _ hLlow
  have Ext4 : Ext s₃ (fun b => b = genv.locals) { s₃ with heap := h' } (fun b => b = genv.locals \/ b = s₃.heap.objs.size + 1 \/ b = s₃.heap.objs.size) :=
    ⟨⟨fun b o _ ho => hkp b o ho, hLa.grow, fun b q => q.elim .inl fun q => .inr (q.elim (fun q => by rw [q]; exact Nat.le_succ _) fun q => by rw [q]; exact Nat.le_refl _)⟩, fun _ _ h => h, id, rfl, rfl, Nat.le_refl _⟩
  have hBase : Base h₀ ({ s₃ with heap := h' } : Shared) (fun b => b = genv.locals \/ b = s₃.heap.objs.size + 1 \/ b = s₃.heap.objs.size) :=
    ⟨X₄.base.keep, fun b q => X₄.base.above b (q.elim .inr .inl), X₄.base.size, fun b q => X₄.base.low b (q.elim .inr .inl), X₄.base.toks, X₄.base.bare⟩
  refine SegX.mono (run_iff.mp (run_of_seg _ _ _ _ _ hBase (gen_loop (A := A) hB GK FK hsc c3 hloc p (fbody := [s1, s2, .For p.tgt (.Call (.Name gx gpos) [a] [] cpos) p.body [] fpos, .If t3 [.Expr (.Yield (some y3) yp3) ep3] [] ip3])
    (Kfr := _) (lfr := _) (pfr := pp) (e := s₃.heap.objs.size + 1) (it := s₃.heap.objs.size) (x := x) (tx := tx) (items := escF 0 false x.cps.toList) Rm (Nat.succ_ne_self _) (fun q => by rw [<- q] at hLlow; exact absurd hLlow (Nat.not_lt.mpr (Nat.le_succ _))) (fun q => by rw [<- q] at hLlow; exact Nat.lt_irrefl _ hLlow) hx
    (Nat.le_succ_of_le h0s) h0s ?_ x.cps.toList 0 _ _ _ 0 false none (by simp) (Nat.zero_le _) X₄ (fun q h => by cases h) (fun q => absurd q (Nat.lt_irrefl _)) (fun _ => rfl) (by simp) rfl (Ext.refl _ _) ⟨⟨_, hen⟩, hit⟩))) ?_
  rotate_left
  · exact fun e s' hr => RunP.back hr (fun b q => .inl q) ((e12.trans (P₃.toExt fun b q => .inl q)).trans Ext4)
  · intro s₅ s₀ n posv esc ch X₅ hch hp hk0 hit' hn hext; have hco : genv.scope.isCoroutine = false := by rw [hsc]; exact c3
    have NgLow : ∀ {s' : Shared}, Pure s₅ s' -> ∀ b, (b = genv.locals \/ b = s₃.heap.objs.size + 1 \/ b = s₃.heap.objs.size) -> b < s'.heap.objs.size :=
      fun P b q => (X₅.pure P).base.low b (q.elim .inr .inl)
    have fin : ∀ s₆ s₀', Ext s₀' (fun b => b = genv.locals \/ b = s₃.heap.objs.size + 1 \/ b = s₃.heap.objs.size) s₆ (fun b => b = genv.locals \/ b = s₃.heap.objs.size + 1 \/ b = s₃.heap.objs.size) ->
        Seg (model prog w) A.in1 (fun n s₀ r s₁ => r = .ok (.ret .none) /\ gP (fun b => b = genv.locals \/ b = s₃.heap.objs.size + 1 \/ b = s₃.heap.objs.size) n s₀ s₁) (gY prog w h₀ (fun b => b = genv.locals \/ b = s₃.heap.objs.size + 1 \/ b = s₃.heap.objs.size) (escF 0 false x.cps.toList)) 0 s₀'
          (.func [s1, s2, .For p.tgt (.Call (.Name gx gpos) [a] [] cpos) p.body [] fpos, .If t3 [.Expr (.Yield (some y3) yp3) ep3] [] ip3] genv) (.pure (.done (.ret .none))) [] s₆ :=
      fun s₆ s₀' he => seg_end (.ok (.ret .none)) ⟨rfl, rfl, he⟩
    show Seg _ _ _ _ n s₀ _ ((execs [.If t3 [.Expr (.Yield (some y3) yp3) ep3] [] ip3] genv).wrap _ _ _ _) [] s₅; refine seg_execs_cons (seg_If ((evalTrue hB GK FK (.var 2)).2 (r := esc) (Rf.le (by simp only [nd]; omega)) X₅ k13 rfl fun s₆ P₆ => ?_)); have ext₆ := hext.trans (P₆.toExt (No := fun b => b = genv.locals \/ b = s₃.heap.objs.size + 1 \/ b = s₃.heap.objs.size) (No' := fun b => b = genv.locals \/ b = s₃.heap.objs.size + 1 \/ b = s₃.heap.objs.size) fun b q => .inl q); cases esc with
    | true =>
      simp only [if_true]; have hn1 : n = 0 + 1 := hn; subst hn1; have hpos : 0 < x.cps.size := by
        rcases Nat.eq_zero_or_pos x.cps.size with h | h
        · exact absurd (hk0 h) (by decide)
        · exact h
      have hpv := hp hpos; obtain ⟨i1, i2, i3⟩ := item_at hit' rfl; refine seg_execs_cons (seg_yieldT hB GK FK (by rfl) (by rfl) (by rfl) (Rf.le (by simp only [gE3, nds, nd, bs]; omega)) (X₅.pure P₆) k14 (l := [.int posv, .str ⟨#[92]⟩]) (by simp [gE3, denEs, denE, lk, gpe, bs]) (by simp [PV.scalar]) i1 (by rw [hpv]; exact i2) ext₆ (NgLow P₆) hco fun s₇ s₈ P₇ L₈ => ?_); exact fin s₈ s₈ (Ext.refl _ _)
    | false =>
      simp only [Bool.false_eq_true, if_false]; have hn0 : n = 0 := hn; subst hn0; exact fin s₆ s₀ ext₆
end
end Mine
end
section
open PySem PySem.W PyProof.Rows PySem.W.X
namespace Mine
structure GenRec (GL : List (Str × G)) (h₀ : Heap) (ga : Addr) where
  name : Str
  params : Arguments
  body : List Stmt
  sc : Scope
  pm : Value
  cd : Value
  doc : Value
  o : Obj
  chk : chkGen GL body sc = true
  at_ : h₀.get? ga = some o
  data : o.data = .func (Calls.docDef name params body sc pm cd doc)
  code : h₀.CodeRec cd name
  bind : ∀ v : Value, bindArgs (Calls.docDef name params body sc pm cd doc) ⟨[v], []⟩ = Pure.pure [(("addr" : Str), v)]
section
variable {prog : Program} {w : World} {h₀ : Heap} {GL : List (Str × G)} {F : Nat -> List PV -> Option PV} {fa : Nat -> Addr} {B : Nat}
variable {A : Around} {cx : Cx} {asg : List Str} {env : Env} {s s' : Shared} {Na No Ng : Addr -> Prop} {pe : PEnv} {E : Value -> Shared -> Prop}
theorem gen_call (GK : Glo prog w h₀ GL fa) {ga : Addr} (g : GenRec GL h₀ ga) {N : Addr -> Prop} {x : Str} {t : Tok} {Q : Value -> Shared -> Prop} (Rm : Room A 1) (Bs : Base h₀ s N)
    (hQ : ∀ s' genv, Pure s s' -> genv.scope = g.sc -> (∀ x, genv.kindOf x ≠ some .cell /\ genv.kindOf x ≠ some .free) -> s.heap.objs.size <= genv.locals -> genv.locals + 1 < s'.heap.objs.size + 1 -> genv.locals ≠ s'.heap.objs.size - 1 -> s.heap.objs.size <= s'.heap.objs.size - 1 -> s'.heap.objs.size - 1 < s'.heap.objs.size ->
      EnvR prog w h₀ (gcx g.sc) (asgOf g.sc) genv s' (fun _ => False) (fun b => b = genv.locals) [some (.str x), none, none, none] ->
      s'.heap.IsGen (s'.heap.objs.size - 1) s.gens.size -> s'.gens[s.gens.size]? = some (.fresh (.func g.body genv)) -> Q (.ref (s'.heap.objs.size - 1)) s') :
    wpAny (model prog w) A (call (.ref ga) [.str x t]) Q E s := by
  have hc := g.chk; unfold chkGen at hc; simp only [Bool.and_eq_true, Bool.not_eq_true'] at hc; obtain ⟨⟨⟨⟨⟨⟨c1, c2⟩, c3⟩, c4⟩, c5⟩, c6⟩, _⟩ := hc; have hkind : g.sc.kind = .function := eq_of_beq c1; have hadr : g.sc.names.lookup ("addr" : Str) = some .local := eq_of_beq c6; have hloc : ∀ y, g.sc.names.lookup y ≠ some .cell /\ g.sc.names.lookup y ≠ some .free := by
    intro y; refine ⟨fun q => ?_, fun q => ?_⟩
    · have := List.all_eq_true.mp c5 _ (mem_lookup q); simp at this
    · have := List.all_eq_true.mp c5 _ (mem_lookup q); simp at this
  have hBs := Bs; refine wpAny_call (codeAny_call_generator Rm.lim (Bs.keep _ _ g.at_) g.data c3 c2 rfl (g.code.keeps Bs.keep) ?_); rw [g.bind]; refine wpAny_pure (wpAny_mon (wpAny_newFunctionEnv_cells hkind (fun y hy => .inl (by simp only [List.mem_singleton] at hy; subst hy; exact hadr)) fun env he s₁ xx hm => ?_)); have hko : ∀ y, env.kindOf y = g.sc.names.lookup y := fun y => by rw [he]; rfl
  have hL : env.locals = s.heap.objs.size := by rw [he]; rfl
  have hS : env.scope = g.sc := by rw [he]; rfl
  have hG : env.globals = mainGlobals := by rw [he]; rfl
  have hBl : env.builtins = builtinsNs := by rw [he]; rfl
  obtain ⟨h₁, tk, rfl⟩ := xx.toInCall.same; refine ⟨GK.nolimit.keeps fun b o e => xx.toInCall.keep b o (Bs.keep b o e), ?_⟩; have hns := xx.toInCall.ns; have hLlt : s.heap.objs.size < h₁.objs.size := by rw [<- hL]; obtain ⟨o, _, _, e, _⟩ := hns; exact Heap.lt_size e
  have P : Pure s { s with heap := h₁, toks := tk } := Pure.mk' (fun b o e => xx.toInCall.keep b o e) hm; have e1 : (h₁.push { cls := .type "generator", data := .fields #[.int s.gens.size 0, .str g.name tk, .str g.name (tk + 1)] }).objs.size - 1 = h₁.objs.size := by simp [Heap.size_push]
  have hm2 : s.toks <= tk := hm.2; have P₂ : Pure s { s with gens := s.gens.push (.fresh (.func g.body env)), heap := h₁.push { cls := .type "generator", data := .fields #[.int s.gens.size 0, .str g.name tk, .str g.name (tk + 1)] }, toks := tk + 1 + 1 } := by
    refine ⟨⟨fun b o _ e => Heap.get?_push_of_some _ (xx.toInCall.keep b o e), ?_, fun _ q => q.elim⟩, fun i y e => ?_, fun q => q.push rfl, rfl, rfl, ?_⟩
    · show s.heap.objs.size <= (h₁.push _).objs.size; rw [Heap.size_push]; exact Nat.le_succ_of_le (Nat.le_of_lt hLlt)
    · show (s.gens.push _)[i]? = some y; have := (Array.getElem?_eq_some_iff.mp e).1; rw [Array.getElem?_push_lt this]
      simpa [this] using e
    · show s.toks <= tk + 1 + 1; omega
  have hb := bind_at (ko := env.kindOf) (m := fun _ => none) (m' := fun _ => none) (pars := [("addr" : Str)]) (vs := [.str x t]) (j := 0) (x := "addr") (v := .str x t) rfl rfl rfl; have X : EnvR prog w h₀ (gcx g.sc) (asgOf g.sc) env { s with gens := s.gens.push (.fresh (.func g.body env)), heap := h₁.push { cls := .type "generator", data := .fields #[.int s.gens.size 0, .str g.name tk, .str g.name (tk + 1)] }, toks := tk + 1 + 1 } (fun _ => False) (fun b => b = env.locals) [some (.str x), none, none, none] := {
    base := { (Bs.pure P₂) with
      above := fun b q => q.elim (fun q => q.elim) fun q => by rw [q, hL]; exact Bs.size
      low := fun b q => q.elim (fun q => q.elim) fun q => by
        show b < (h₁.push _).objs.size; rw [q, hL, Heap.size_push]; exact Nat.lt_succ_of_lt hLlt }
    kind := by rw [hS]; exact hkind
    glb := hG
    blt := hBl
    gl := fun y hy => by rw [hko]; exact hy
    cl := fun y hy => by rcases hy with hy | hy; exact absurd hy (hloc y).1; exact absurd hy (hloc y).2
    ns := ⟨_, hns.keeps fun _ _ e => Heap.get?_push_of_some _ e⟩
    noL := rfl
    apart := fun y z c h1 h2 => name_of_addr xx.apart (mem_lookup h1) (mem_lookup h2)
    cellsLow := fun y c h => by
      show c < (h₁.push _).objs.size; rw [Heap.size_push]; exact Nat.lt_succ_of_lt (xx.cell y c h).lt
    vars := fun y i p h1 h2 => by
      have hi0 : i = 0 /\ p = .str x := by
        match i with
        | 0 => simp [lk] at h2; exact ⟨rfl, h2.symm⟩
        | 1 => simp [lk] at h2
        | 2 => simp [lk] at h2
        | 3 => simp [lk] at h2
        | n + 4 => simp [lk] at h2
      obtain ⟨rfl, rfl⟩ := hi0; have hy : y = "addr" := nodupN_inj (l := gvars) (i := 0) rfl h1 rfl; subst hy; refine ⟨.str x t, .loc _ (by rw [hko]; exact hadr) (hns.keeps fun _ _ e => Heap.get?_push_of_some _ e) (hb.1 (by rw [hko]; exact hadr)), .str _ _, fun h => (nomatch h)⟩
    stores := fun y hy => by
      obtain ⟨⟨n, k⟩, hm', e⟩ := List.mem_map.mp hy; simp only at e; subst e; obtain ⟨hm1, hm2⟩ := List.mem_filter.mp hm'; have hlk := nodup_lookup c4 hm1; simp only [Bool.or_eq_true] at hm2; rcases hm2 with hm2 | hm2
      · exact .loc (by rw [hko, hlk, eq_of_beq hm2])
      · exact absurd (by rw [hlk, eq_of_beq hm2]) (hloc n).1
    inj := fun y z i h1 h2 => nodupN_inj (l := gvars) rfl h1 h2
    alone := fun y z i j a h1 h2 h3 h4 h5 => (nomatch h5)
    disj := fun b _ q => q
    turns := fun y i a h1 h2 => (nomatch h2) }
  have fin := hQ _ env P₂ hS (fun y => by rw [hko]; exact hloc y) (by rw [hL]; exact Nat.le_refl _) ?_ ?_ ?_ ?_ X ?_ ?_
  · rw [e1] at fin; exact fin
  · show env.locals + 1 < (h₁.push _).objs.size + 1; rw [hL, Heap.size_push]; exact Nat.succ_lt_succ (Nat.lt_succ_of_lt hLlt)
  · show env.locals ≠ (h₁.push _).objs.size - 1; rw [e1, hL]; exact Nat.ne_of_lt hLlt
  · show s.heap.objs.size <= (h₁.push _).objs.size - 1; rw [e1]; exact Nat.le_of_lt hLlt
  · show (h₁.push _).objs.size - 1 < (h₁.push _).objs.size; rw [e1, Heap.size_push]; omega
  · show Heap.IsGen (h₁.push _) ((h₁.push _).objs.size - 1) _; rw [e1]; exact ⟨_, _, _, Heap.get?_push_size _ rfl, rfl, rfl, rfl⟩
  · show (s.gens.push _)[s.gens.size]? = _; simp
end
end Mine
end
section
open PySem PySem.W PyProof.Rows PySem.W.X
namespace Mine
section
variable {prog : Program} {w : World} {A : Around} {E : Value -> Shared -> Prop} {s : Shared}
def Woke (prog : Program) (w : World) (A : Around) (gs : GenState) (s : Shared) (P : End -> Shared -> Prop) : Prop :=
  (∃ c, gs = .fresh c /\ SegX (model prog w) A c ((model prog w).den c) [] s P) \/ (∃ k l c p fs cl, gs = .suspended k l c p fs cl /\ SegX (model prog w) A c (k (.send .none)) fs s P)
theorem pyNext_run {a : Addr} {g : Nat} {gs : GenState} {P : End -> Shared -> Prop} {Q : Option Value -> Shared -> Prop} (hh : A.handled = none)
    (hl : s.heap.NoLimit) (hroom : A.depth < recursionLimit) (hg : s.heap.IsGen a g) (hgs : s.gens[g]? = some gs) (hgo : Woke prog w A.in1 gs (s.setGen g .running) P)
    (hY : ∀ v gl l k c p fs s₁, P (.susp v gl l k c p fs) s₁ -> (End.susp v gl l k c p fs).quiet = true -> Q (some v) (s₁.setGen g (End.susp v gl l k c p fs).genState))
    (hP : ∀ r s₁, P (.ret r) s₁ -> r = .ok (.ret .none) /\ ∀ h', (∀ b o, s₁.heap.get? b = some o -> h'.get? b = some o) -> Q none { s₁.setGen g .finished with heap := h' }) :
    wpAny (model prog w) A (pyNext (.ref a)) Q E s := by
  unfold pyNext; refine wpAny_bind (wpAny_attempt (wpAny_callSpecial?_slot (name := Str.ofString "__next__") hg.typeIs slot_gen_next
    (wpAny_call_entry slot_gen_next hg.typeIs entry_gen_next ?_ (args_gen_next _))))
  show wpAny _ A.in1 (Builtin.Generator.genWake (.ref a) (.send .none)) _ _ s; unfold Builtin.Generator.genWake; refine wpAny_bind (wpAny_holding (wpAny_genNumber hg (wpAny_bind (wpAny_genState hgs ?_)))); have fin : ∀ e s₁, P e s₁ -> e.quiet = true -> ∀ (k : GenResult -> Sem PySem.Fin), True := fun _ _ _ _ _ => trivial; rcases hgo with ⟨c, rfl, hx⟩ | ⟨k, l, c, p, fs, cl, rfl, hx⟩
  all_goals
    refine wpAny_bind (wpAny_roomToWake hl hroom ?_); refine fun Γ p' hΓ => wake_any _ prog w hgs (by first | exact .inl ⟨rfl, rfl, rfl, rfl⟩ | exact .inr ⟨_, _, _, _, rfl, rfl⟩) (fun Γ => Γ.In A.in1) (fun _ h => h) (c₀ := c) (fun Γ p hc hΓ => ?_) Γ p' hΓ; obtain ⟨e, s₁, hr, hq, hp⟩ := hx Γ p hc hΓ; refine ⟨e, s₁, hr, hq, fun Γ p hΓ => ?_⟩; cases e with
    | ret r =>
      obtain ⟨rfl, hpp⟩ := hP r s₁ hp; refine (?_ : wpAny (model prog w) A.in1 (newExc (.type "StopIteration") [] >>= _) _ _ _) Γ p hΓ; refine wpAny_bind ?_; simp only [newExc, newTuple]; refine wpAny_bind (wpAny_newObj_type ?_ (by size_fits)); refine wpAny_bind (m := firstArgMember _ _) (wpAny_of_eq (a := Value.none) (by first | rfl | (simp only [firstArgMember]; rfl)) ?_); refine wpAny_newObj_type ?_ (by size_fits); simp only [raiseNew]; refine wpAny_bind (wpAny_bind (wpAny_handled ?_))
      first | rw [show A.in1.handled = none from hh] | rw [hh]
      refine wpAny_throw ?_; refine wpAny_bind (wpAny_isInstance (T := "StopIteration") (b := true) ⟨_, Heap.get?_push_size _ rfl, rfl⟩ isSubtype_stop ?_); exact wpAny_pure (hpp _ fun b o hb => Heap.get?_push_of_some _ (Heap.get?_push_of_some _ hb))
    | susp v gl l k c p' fs =>
      have := hY v gl l k c p' fs s₁ hp hq; exact (wpAny_pure ⟨v, rfl, wpAny_pure this⟩ : wpAny (model prog w) A.in1 (Pure.pure _) _ _ _) Γ p hΓ
end
section
variable {prog : Program} {w : World} {h₀ : Heap} {GL : List (Str × G)} {F : Nat -> List PV -> Option PV} {fa : Nat -> Addr} {B : Nat}
variable {A : Around} {cx : Cx} {asg : List Str} {env : Env} {s s' : Shared} {Na No Ng : Addr -> Prop} {pe : PEnv} {E : Value -> Shared -> Prop}
theorem setGen_bare {s : Shared} {g : Nat} {gs : GenState} (h : AllBare s.gens) (hg : gs.bare = true) : AllBare (s.setGen g gs).gens := by
  intro y hy; unfold Shared.setGen at hy; simp only at hy; rcases Array.mem_or_eq_of_mem_setIfInBounds hy with h1 | rfl
  · exact h y h1
  · exact hg
theorem setGen_other {s : Shared} {g i : Nat} {gs y : GenState} (hne : i ≠ g) (h : s.gens[i]? = some y) : (s.setGen g gs).gens[i]? = some y := by
  unfold Shared.setGen; simp only; rw [Array.getElem?_setIfInBounds_ne (Ne.symm hne)]; exact h
theorem Later.trans' {s s' s'' : Shared} {Ng : Addr -> Prop} (h1 : ∀ b o, Ng b -> s.heap.get? b = some o -> s'.heap.get? b = some o) (hg : s.heap.objs.size <= s'.heap.objs.size) (h : Later h₀ Ng s' s'') : Later h₀ Ng s s'' :=
  ⟨fun b o hb e => h.own b o hb (h1 b o hb e), h.keep, Nat.le_trans hg h.grow, h.toks, h.bare⟩
structure EscInv (prog : Program) (w : World) (h₀ : Heap) (A : Around) (cx : Cx) (asg : List Str) (env : Env) (items : List PV) (s : Shared) (Na No : Addr -> Prop) (I : Addr) (gi : Nat) (k : Nat) (pe : PEnv) (Ng No₁ : Addr -> Prop) (s' : Shared) : Prop where
  ext : Ext s No s' No₁
  env_ : EnvR prog w h₀ cx asg env s' (fun b => Na b \/ Ng b \/ b = I) No₁ pe
  gen : s'.heap.IsGen I gi
  high : ∀ b, Ng b -> s.heap.objs.size <= b
  apart : ¬ Ng I
  run : ∃ gs, s'.gens[gi]? = some gs /\ ∀ s'', Later h₀ Ng s' s'' -> Woke prog w A.in1 gs s'' (RunP prog w h₀ A.in1 items (items.length - k) Ng s'')
theorem esc_wake (GK : Glo prog w h₀ GL fa) {items : List PV} {I : Addr} {gi k : Nat} {No₁ : Addr -> Prop} {Q : Option Value -> Shared -> Prop} (R : Room A 3) (X₀ : EnvR prog w h₀ cx asg env s Na No pe) {pe₁ : PEnv} (hI : s.heap.objs.size <= I) (hgi : s.gens.size <= gi) (hk : k <= items.length)
    (V : EscInv prog w h₀ A cx asg env items s Na No I gi k pe₁ Ng No₁ s')
    (hnone : k = items.length -> ∀ s₂, Ext s No s₂ No₁ -> EnvR prog w h₀ cx asg env s₂ Na No₁ pe₁ -> Q none s₂)
    (hsome : k < items.length -> ∀ v q s₂ Ng', items[k]? = some q -> (∀ b, Ng b -> Ng' b) -> RV prog w s₂.heap (fun b => (Na b \/ Ng' b \/ b = I) \/ No₁ b) v q -> EscInv prog w h₀ A cx asg env items s Na No I gi (k + 1) pe₁ Ng' No₁ s₂ -> Q (some v) s₂) :
    wpAny (model prog w) A (pyNext (.ref I)) Q E s' := by
  obtain ⟨gs, hgs, hrun⟩ := V.run; have X := V.env_; have hrb : AllBare (s'.setGen gi .running).gens := setGen_bare X.base.bare rfl; have hL : Later h₀ Ng s' (s'.setGen gi .running) := ⟨fun _ _ _ e => e, X.base.keep, Nat.le_refl _, X.base.toks, hrb⟩; have after : ∀ (s₃ : Shared) (Ng' : Addr -> Prop) (s₄ : Shared), (∀ b, Ng b -> Ng' b) -> Ext (s'.setGen gi .running) Ng s₃ Ng' -> Low Ng' s₃.heap -> (∀ b o, s₃.heap.get? b = some o -> s₄.heap.get? b = some o) -> s₃.heap.objs.size <= s₄.heap.objs.size -> s₄.toks = s₃.toks -> AllBare s₄.gens -> s₄.os = s₃.os -> s₄.drawn = s₃.drawn ->
      (∀ i y, i ≠ gi -> s₃.gens[i]? = some y -> s₄.gens[i]? = some y) ->
      Ext s No s₄ No₁ /\ EnvR prog w h₀ cx asg env s₄ (fun b => Na b \/ Ng' b \/ b = I) No₁ pe₁ /\ s₄.heap.IsGen I gi := by
    intro s₃ Ng' s₄ hsub he hlow hk4 hg4 ht4 hb4 ho4 hd4 hgn; have hgr : s'.heap.objs.size <= s₄.heap.objs.size := Nat.le_trans he.step.grow hg4; have htk : s'.toks <= s₄.toks := by rw [ht4]; exact (show (s'.setGen gi .running).toks <= s₃.toks from Ext.toks he)
    refine ⟨⟨⟨fun b o hn e => ?_, Nat.le_trans V.ext.step.grow hgr, V.ext.step.new⟩, fun i y e => ?_, fun _ => hb4, ?_, ?_, Nat.le_trans (Ext.toks V.ext) htk⟩, ?_, ?_⟩
    · have hb := Heap.lt_size e; exact hk4 b o (he.step.keep b o (fun q => absurd hb (Nat.not_lt.mpr (V.high b q))) (V.ext.step.keep b o hn e))
    · have hi : i < s.gens.size := (Array.getElem?_eq_some_iff.mp e).1; have hne : i ≠ gi := fun q => absurd hi (Nat.not_lt.mpr (q ▸ hgi)); exact hgn i y hne (he.gens i y (setGen_other hne (V.ext.gens i y e)))
    · rw [ho4, he.os]; exact V.ext.os
    · rw [hd4, he.drawn]; exact V.ext.drawn
    · refine X.pokes (Z := Ng) (fun b q => .inr (.inl q)) (fun y c h q => absurd (X₀.cellsLow y c h) (Nat.not_lt.mpr (V.high c q))) (fun b q => q.imp id fun q => q.imp (hsub b) id) (fun b q => ?_) (fun b q => ?_) (fun b o hn e => hk4 b o (he.step.keep b o hn e)) hgr htk (fun _ => hb4)
      · rcases q with q | q | q
        · exact .inl (.inl q)
        · rcases he.step.new b q with q | q
          · exact .inl (.inr (.inl q))
          · exact .inr q
        · exact .inl (.inr (.inr q))
      · rcases q with q | q | q
        · exact Nat.lt_of_lt_of_le (X.base.low b (.inl (.inl q))) hgr
        · exact Nat.lt_of_lt_of_le (hlow b q) hg4
        · exact Nat.lt_of_lt_of_le (X.base.low b (.inl (.inr (.inr q)))) hgr
    · obtain ⟨o, nm, qn, e, r⟩ := V.gen; exact ⟨o, nm, qn, hk4 I o (he.step.keep I o V.apart e), r⟩
  refine wpAny_mon (pyNext_run R.hh (GK.nolimit.keeps X.base.keep) R.lim V.gen hgs (hrun _ hL) (fun v gl l kk c p fs s₃ hp hq _ => ?_) (fun r s₃ hp => ?_))
  · rcases Nat.eq_zero_or_pos (items.length - k) with h0 | hpos
    · rw [h0] at hp; obtain ⟨_, _, _, _, h⟩ := hp; cases h
    · obtain ⟨m, hm⟩ : ∃ m, items.length - k = m + 1 := ⟨items.length - k - 1, by omega⟩; rw [hm] at hp; obtain ⟨Ng', hsub, he, hlow, v', gl', l', k', c', p', fs', heq, hml, ⟨q, hq', T, vs, tl, rfl, rfl, hTn, hTs, hTp, hTr⟩, hnext⟩ := hp; cases heq; have hlt : k < items.length := by omega
      have hix : items.length - (m + 1) = k := by omega
      rw [hix] at hq'; have hbare : (End.susp (Value.ref T) gl l kk c p fs).genState.bare = true := End.bare_of_quiet hq; have hb4 : AllBare (s₃.setGen gi (End.susp (Value.ref T) gl l kk c p fs).genState).gens := setGen_bare (he.bare hrb) hbare; obtain ⟨a1, a2, a3⟩ := after s₃ Ng' (s₃.setGen gi (End.susp (Value.ref T) gl l kk c p fs).genState) hsub he hlow (fun _ _ e => e) (Nat.le_refl _) rfl hb4 rfl rfl (fun i y hne e => setGen_other hne e); have hsz : s'.heap.objs.size <= T := hTs; refine hsome hlt _ _ _ Ng' hq' hsub (.tup (fun q => ?_) hTp (hTr _ _)) ⟨a1, a2, a3, fun b q => ?_, fun q => ?_, ?_⟩
      · rcases q with (q | q | q) | q
        · exact absurd (X.base.low T (.inl (.inl q))) (Nat.not_lt.mpr hsz)
        · exact hTn q
        · exact absurd (X.base.low T (.inl (.inr (.inr q)))) (Nat.not_lt.mpr hsz)
        · exact absurd (X.base.low T (.inr q)) (Nat.not_lt.mpr hsz)
      · rcases he.step.new b q with q | q
        · exact V.high b q
        · exact Nat.le_trans V.ext.step.grow q
      · rcases he.step.new I q with q | q
        · exact V.apart q
        · exact absurd (X.base.low I (.inl (.inr (.inr rfl)))) (Nat.not_lt.mpr q)
      · have hgsz : gi < s₃.gens.size := by
          have h1 : (s'.setGen gi .running).gens[gi]? = some .running := by
            unfold Shared.setGen; have := (Array.getElem?_eq_some_iff.mp hgs).1; simp [this]
          exact (Array.getElem?_eq_some_iff.mp (he.gens gi _ h1)).1
        refine ⟨(End.susp (Value.ref T) gl l kk c p fs).genState, ?_, fun s'' hL2 => .inr ⟨kk, l, c, p, fs, _, rfl, ?_⟩⟩
        · unfold Shared.setGen; simp [hgsz]
        · have := run_iff.mp (hnext s'' ⟨hL2.own, hL2.keep, hL2.grow, hL2.toks, hL2.bare⟩); rw [show items.length - (k + 1) = m by omega]; exact this
  · rcases Nat.eq_zero_or_pos (items.length - k) with h0 | hpos
    · rw [h0] at hp; obtain ⟨Ng', hsub, he, hlow, h⟩ := hp; cases h; refine ⟨rfl, fun h' hkp hmono => ?_⟩; have hb4 : AllBare (s₃.setGen gi .finished).gens := setGen_bare (he.bare hrb) rfl; have htk : s'.toks <= s₃.toks := (show (s'.setGen gi .running).toks <= s₃.toks from Ext.toks he); refine hnone (by omega) _ ⟨⟨fun b o hn e => ?_, Nat.le_trans V.ext.step.grow hmono.1, V.ext.step.new⟩, fun i y e => ?_, fun _ => hb4, ?_, ?_, Nat.le_trans (Ext.toks V.ext) htk⟩ (EnvR.narrow (Na' := fun b => Na b \/ Ng b \/ b = I) ?_ fun b q => .inl q)
      · have hb := Heap.lt_size e; exact hkp b o (he.step.keep b o (fun q => absurd hb (Nat.not_lt.mpr (V.high b q))) (V.ext.step.keep b o hn e))
      · have hi : i < s.gens.size := (Array.getElem?_eq_some_iff.mp e).1; have hne : i ≠ gi := fun q => absurd hi (Nat.not_lt.mpr (q ▸ hgi)); exact setGen_other hne (he.gens i y (setGen_other hne (V.ext.gens i y e)))
      · exact he.os.trans V.ext.os
      · exact he.drawn.trans V.ext.drawn
      · exact X.pokes (Z := Ng) (fun b q => .inr (.inl q)) (fun y c h q => absurd (X₀.cellsLow y c h) (Nat.not_lt.mpr (V.high c q))) (fun b q => q) (fun b q => .inl q) (fun b q => Nat.lt_of_lt_of_le (X.base.low b (.inl q)) hmono.1) (fun b o hn e => hkp b o (he.step.keep b o hn e)) hmono.1 htk (fun _ => hb4)
    · obtain ⟨m, hm⟩ : ∃ m, items.length - k = m + 1 := ⟨items.length - k - 1, by omega⟩; rw [hm] at hp; obtain ⟨Ng', hsub, he, hlow, v', gl', l', k', c', p', fs', heq, _⟩ := hp; cases heq
set_option maxHeartbeats 1600000 in
theorem exec_esc (hB : 3 <= B) (GK : Glo prog w h₀ GL fa) (FK : FunOK prog w h₀ F fa B) (g : GenRec GL h₀ (fa 1000)) {ts : List Nat} {e : PE} {body : PSs} (ha : ExecsP prog w h₀ GL F B body) : ExecP prog w h₀ GL F B (.esc ts e body) := by
  intro A cx asg env s Na No pe pe' fl stm Q E htop R X hc hd hQ; have R1 : Room A (nd e + B) := R.le (by simp only [ns]; omega); have R2 : Room A (nss body + B) := R.le (by simp only [ns]; omega); have R3 : Room A (B + 10) := R.le (by simp only [ns]; omega); unfold chkS at hc; split at hc
  · rename_i tgt g' a cpos bs pos; simp only [Bool.and_eq_true] at hc; obtain ⟨⟨⟨⟨h1, h2⟩, h3⟩, h4⟩, h5⟩ := hc; simp only [denS] at hd; split at hd
    · rename_i p d1; split at hd
      · rename_i items hit; unfold escItems at hit; split at hit
        case h_2 => cases hit
        rename_i x; split at hit
        case isFalse => cases hit
        rename_i hx; simp only [Option.some.injEq] at hit; obtain ⟨gx, gpos, gg, rfl, q1, q2, q3, q4⟩ := globB_inv h2; have hb : backTo cpos (starEach [a] env) = [(false, eval a env)] := by rw [starEach_cons h3]; rfl
        refine wpAny_For (wpAny_Call_NameR (glob_sound GK X q1 q2 q3 fun v hv => ?_)) (fun _ => rfl); cases gg <;> simp [isGenG] at q4; obtain ⟨rfl, o, fd, hg, hfd⟩ := hv; rw [hb]; refine Calls.callWith_function (o := o) (fd := fd) (Calls.evalArgs_plain (Calls.spliced_cons ((evalTrue hB GK FK e).1 R1 X h4 d1 fun v s₁ P₁ o₁ => Calls.spliced_nil ⟨⟨P₁.keep _ _ (X.base.keep _ _ hg), hfd⟩, ?_⟩))); have o1 := o₁.t; cases o1 with
        | str _ tx =>
        have X₁ := X.pure P₁; refine gen_call GK g (R.le (by simp only [ns]; omega)) X₁.base fun s₂ genv P₂ hgs hgl hL1 hL2 hLI hI1 hI2 Xg hgen hgens => ?_; refine wpAny_pyIter_gen hgen ?_; generalize hI : s₂.heap.objs.size - 1 = I at *; have P12 := P₁.trans P₂; have hsL : s.heap.objs.size <= genv.locals := Nat.le_trans P₁.step.grow hL1; have hsI : s.heap.objs.size <= I := Nat.le_trans P₁.step.grow hI1; have hsg : s.gens.size <= s₁.gens.size := by
          rcases Nat.eq_zero_or_pos s.gens.size with h0 | hp
          · omega
          · have h1 : s.gens[s.gens.size - 1]? = some s.gens[s.gens.size - 1] := by simp [hp]
            have := (Array.getElem?_eq_some_iff.mp (P₁.gens _ _ h1)).1; omega
        have X₂ : EnvR prog w h₀ cx asg env s₂ (fun b => Na b \/ b = genv.locals \/ b = I) No pe := by
          refine X.wideA P12 (fun b q => .inl q) (fun b q => ?_) fun b q => ?_
          · rcases q with q | q | q
            · exact .inl q
            · exact .inr (by rw [q]; exact hsL)
            · exact .inr (by rw [q]; exact hsI)
          · rcases q with q | q | q
            · exact Nat.lt_of_lt_of_le (X.base.low b (.inl q)) P12.step.grow
            · rw [q]; exact Nat.lt_of_succ_lt_succ hL2
            · rw [q]; exact hI2
        have fresh : ∀ s'', Later h₀ (fun b => b = genv.locals) s₂ s'' -> Woke prog w A.in1 (.fresh (.func g.body genv)) s'' (RunP prog w h₀ A.in1 items (items.length - 0) (fun b => b = genv.locals) s'') := by
          intro s'' hL; refine .inl ⟨_, rfl, ?_⟩; have Xg' : EnvR prog w h₀ (gcx g.sc) (asgOf g.sc) genv s'' (fun _ => False) (fun b => b = genv.locals) [some (.str x), none, none, none] :=
            Xg.again (Ng := fun b => b = genv.locals) (by intro i q h; match i with | 0 => simp [lk] at h; subst h; rfl | 1 => simp [lk] at h | 2 => simp [lk] at h | 3 => simp [lk] at h | n + 4 => simp [lk] at h) rfl rfl hgl hL rfl
              (fun b q => q.elim (fun q => q.elim) fun q => ⟨by rw [q]; exact Xg.base.above _ (.inr rfl), by rw [q]; exact Nat.lt_of_lt_of_le (Xg.base.low _ (.inr rfl)) hL.grow⟩) rfl (fun b _ q => q)
          have := gen_fresh (A := A) hB GK FK hgs hgl g.chk hx.1 hx.2 R3 Xg'; rw [hit] at this; exact run_iff.mp this
        refine forLoop_go (fun n s' => ∃ k pe₁ Ng No₁, k <= items.length /\ n = items.length - k /\ EscInv prog w h₀ A cx asg env items s Na No I s₁.gens.size k pe₁ Ng No₁ s' /\ forF (denSs F body) ts (items.drop k) pe₁ = some (pe', fl)) ?_ items.length
          ⟨0, pe, fun b => b = genv.locals, No, Nat.zero_le _, by omega, ⟨Pure.toExt P12 fun b q => .inl q, X₂, hgen, fun b q => by rw [q]; exact hsL, fun q => hLI q.symm, _, hgens, fresh⟩, by simpa using hd⟩
        rintro n s' ⟨k, pe₁, Ng, No₁, hk, rfl, V, hf⟩ E'
        refine esc_wake GK (R.le (by simp only [ns]; omega)) X hsI hsg hk V (fun hkl s₂ he X' => ?_) (fun hlt v q s₄ Ng' hq hsub hrv V' => ?_)
        · subst hkl; rw [List.drop_length] at hf; simp only [forF, Option.some.injEq, Prod.mk.injEq] at hf; obtain ⟨rfl, rfl⟩ := hf; exact hQ _ _ No₁ he X' .next
        · rw [drop_cons hq] at hf; simp only [forF] at hf; split at hf
          · cases hf
          · rename_i pe₂ hbt
            dsimp only
            obtain ⟨oI, nm, qn, hoI, hcI, _⟩ := V'.gen; refine letGo_plain hoI hcI (by decide) (bind_sound R.hh V'.env_ h1 hrv hbt fun s₅ e₅ X₅ => ?_); have bodyK : ∀ pe₃ fl₃ (Q₃ : Flow -> Shared -> Prop), denSs F body pe₂ = some (pe₃, fl₃) ->
                (∀ f s₆ No₆, Ext s No s₆ No₆ -> EnvR prog w h₀ cx asg env s₆ (fun b => Na b \/ Ng' b \/ b = I) No₆ pe₃ -> FlR prog w s₆.heap (fun b => Na b \/ Ng' b \/ b = I) fl₃ f -> EscInv prog w h₀ A cx asg env items s Na No I s₁.gens.size (k + 1) pe₃ Ng' No₆ s₆ -> Q₃ f s₆) ->
                wpAny (model prog w) A (execs bs env) Q₃ E' s₅ := by
              intro pe₃ fl₃ Q₃ d3 hK; refine ha htop R2 X₅ h5 d3 fun f s₆ No₆ e₆ X₆ hfl => ?_; have e56 := e₅.trans e₆; have ext := V'.ext.trans e56; refine hK f s₆ No₆ ext X₆ hfl ⟨ext, X₆, ?_, V'.high, V'.apart, ?_⟩
              · obtain ⟨oI, nm, qn, hoI, r⟩ := V'.gen; exact ⟨oI, nm, qn, e56.step.keep _ _ (fun q => V'.env_.disj _ q (.inr (.inr rfl))) hoI, r⟩
              · obtain ⟨gs, hgs, hrun⟩ := V'.run; exact ⟨gs, e56.gens _ _ hgs, fun s'' hL => hrun s'' (Later.trans' (fun b o hb ho => e56.step.keep b o (fun q => V'.env_.disj b q (.inr (.inl hb))) ho) e56.step.grow hL)⟩
            split at hf
            · rename_i pe₃ d3; refine bodyK _ _ _ d3 fun f s₆ No₆ e₆ X₆ hfl V₆ => ?_; cases hfl; exact ⟨items.length - (k + 1), by omega, k + 1, pe₃, Ng', No₆, hlt, rfl, V₆, hf⟩
            · rename_i pe₃ d3; simp only [Option.some.injEq, Prod.mk.injEq] at hf; obtain ⟨rfl, rfl⟩ := hf; refine bodyK _ _ _ d3 fun f s₆ No₆ e₆ X₆ hfl V₆ => ?_; cases hfl; exact hQ _ _ No₆ e₆ (X₆.narrow fun b q => .inl q) .next
            · rename_i pe₃ v' d3; simp only [Option.some.injEq, Prod.mk.injEq] at hf; obtain ⟨rfl, rfl⟩ := hf; refine bodyK _ _ _ d3 fun f s₆ No₆ e₆ X₆ hfl V₆ => ?_; cases hfl with
              | ret hr => exact hQ _ _ No₆ e₆ (X₆.narrow fun b q => .inl q) (.ret (hr.weak' fun b q => .inl q))
            · cases hf
      · cases hd
    · cases hd
  · cases hc
end
end Mine
end
section
open PySem PySem.W PyProof.Rows
namespace Mine
section
variable {prog : Program} {w : World} {h₀ : Heap} {GL : List (Str × G)} {F : Nat -> List PV -> Option PV} {fa : Nat -> Addr} {B : Nat}
mutual
theorem execAll (hB : 3 <= B) (GK : Glo prog w h₀ GL fa) (FK : FunOK prog w h₀ F fa B) (g : GenRec GL h₀ (fa 1000)) : ∀ p : PS, ExecP prog w h₀ GL F B p
  | .asg i e => exec_asg (fun p => (evalTrue hB GK FK p).1) (fun p => (evalTrue hB GK FK p).2) (fun p => iterAll hB GK FK p) i e
  | .asgO i e => exec_asgO (fun p => (evalTrue hB GK FK p).1) (fun p => (evalTrue hB GK FK p).2) (fun p => iterAll hB GK FK p) i e
  | .newD i => exec_newD GK i
  | .asgT ts e => exec_asgT (fun p => (evalTrue hB GK FK p).1) ts e
  | .aug i op e => exec_aug (fun p => (evalTrue hB GK FK p).1) i op e
  | .ext i e => exec_ext (fun p => (evalTrue hB GK FK p).1) i e
  | .app i e => exec_app (fun p => (evalTrue hB GK FK p).1) i e
  | .pop j i => exec_pop j i
  | .setI i k v => exec_setI (fun p => (evalTrue hB GK FK p).1) i k v
  | .ite t a b => exec_ite (fun p => (evalTrue hB GK FK p).2) (execsAll hB GK FK g a) (execsAll hB GK FK g b)
  | .for ts src body => exec_for (fun p => iterAll hB GK FK p) (execsAll hB GK FK g body)
  | .esc ts e body => exec_esc hB GK FK g (execsAll hB GK FK g body)
  | .while n t body => exec_while (fun p => (evalTrue hB GK FK p).2) (execsAll hB GK FK g body)
  | .ret e => exec_ret (fun p => (evalTrue hB GK FK p).1) e
  | .brk => exec_brk
theorem execsAll (hB : 3 <= B) (GK : Glo prog w h₀ GL fa) (FK : FunOK prog w h₀ F fa B) (g : GenRec GL h₀ (fa 1000)) : ∀ p : PSs, ExecsP prog w h₀ GL F B p
  | .nil => execs_nil
  | .cons s ss => execs_cons (execAll hB GK FK g s) (execsAll hB GK FK g ss)
end
theorem fun_sound (hB : 3 <= B) (GK : Glo prog w h₀ GL fa) (FK : FunOK prog w h₀ F fa B) (g : GenRec GL h₀ (fa 1000)) {f : FSpec} {name : Str} {params : Arguments} {body : List Stmt} {sc : Scope} {pm cd doc : Value} {a : Addr} {o : Obj} {A : Around} {s : Shared} {N : Addr -> Prop} {vs : List Value} {ps : List PV} {r : PV} {Q : Value -> Shared -> Prop} {E : Value -> Shared -> Prop}
    (hc : chkF GL f body sc = true) (ho : h₀.get? a = some o) (hdata : o.data = .func (Calls.docDef name params body sc pm cd doc)) (hcd : h₀.CodeRec cd name)
    (hbind : ∀ vs : List Value, vs.length = f.pars.length -> bindArgs (Calls.docDef name params body sc pm cd doc) ⟨vs, []⟩ = Pure.pure (f.pars.zip vs))
    (R : Room A (nss f.code + B + 1)) (Bs : Base h₀ s N) (rs : RVs prog w s.heap N vs ps) (hd : denF F f ps = some r) (hQ : ∀ v s', Pure s s' -> RV prog w s'.heap N v r -> Q v s') : wpAny (model prog w) A (call (.ref a) vs) Q E s := by
  unfold denF at hd; split at hd
  case isFalse => cases hd
  rename_i hlen; split at hd
  case h_2 => cases hd
  rename_i pe' v hden; cases hd; simp only [chkF, Bool.and_eq_true, Bool.not_eq_true'] at hc; obtain ⟨⟨⟨⟨⟨⟨⟨⟨⟨c1, c2⟩, c3⟩, c4⟩, c5⟩, c6⟩, c7⟩, c8⟩, c9⟩, c10⟩ := hc; have hkind : sc.kind = .function := eq_of_beq c1; have hvl : vs.length = f.pars.length := by rw [rs.length, hlen]
  have hz : ∀ x ∈ f.pars.zip vs, sc.names.lookup x.1 = some .local \/ sc.names.lookup x.1 = some .cell := by
    intro x hx; obtain ⟨j, hj⟩ := List.mem_iff_getElem?.mp (List.of_mem_zip hx).1; exact (parsOk_at c9 hj).2.2.2
  have hcf : ∀ y, sc.names.lookup y = some .cell -> ∃ c, (cellsFrom (s.heap.objs.size + 1) sc.names []).lookup y = some c /\ s.heap.objs.size + 1 <= c := by
    intro y hy; have := cellsFrom_some (h := s.heap.push { cls := .type "dict", data := .dict #[] }) (acc := []) c4 (mem_lookup hy); rw [Heap.size_push] at this; obtain ⟨c, q1, q2, _⟩ := this; exact ⟨c, q1, q2⟩
  refine wpAny_call (codeAny_call_function R.lim (Bs.keep _ _ ho) hdata c3 c2 rfl (hcd.keeps Bs.keep) ?_); rw [hbind vs hvl]; refine wpAny_pure (wpAny_mon (wpAny_newFunctionEnv_cells hkind (fun x hx => (hz x hx).imp id fun q => ⟨q, by obtain ⟨c, q1, _⟩ := hcf _ q; show (List.lookup x.1 (cellsFrom _ sc.names [])).isSome = true; rw [q1]; rfl⟩) fun env he s₁ x hm => ?_)); subst he; refine ⟨GK.nolimit.keeps fun b o e => x.toInCall.keep b o (Bs.keep b o e), codeAny_func ?_⟩; obtain ⟨h₁, tk, rfl⟩ := x.toInCall.same; have hcodeEnv : (newEnv (Calls.docDef name params body sc pm cd doc).scope s.heap.objs.size (Calls.docDef name params body sc pm cd doc).globals (cellsFrom (s.heap.objs.size + 1) (Calls.docDef name params body sc pm cd doc).scope.names [])
      ((Calls.docDef name params body sc pm cd doc).qualname ++ ".<locals>.") (some a) (Calls.docDef name params body sc pm cd doc).code none (Calls.docDef name params body sc pm cd doc).builtins).kindOf = fun y => sc.names.lookup y := rfl
  generalize henv : (newEnv (Calls.docDef name params body sc pm cd doc).scope s.heap.objs.size (Calls.docDef name params body sc pm cd doc).globals (cellsFrom (s.heap.objs.size + 1) (Calls.docDef name params body sc pm cd doc).scope.names [])
      ((Calls.docDef name params body sc pm cd doc).qualname ++ ".<locals>.") (some a) (Calls.docDef name params body sc pm cd doc).code none (Calls.docDef name params body sc pm cd doc).builtins) = env at *
  have hL : env.locals = s.heap.objs.size := by rw [<- henv]; rfl
  have hC : env.cells = cellsFrom (s.heap.objs.size + 1) sc.names [] := by rw [<- henv]; rfl
  have hS : env.scope = sc := by rw [<- henv]; rfl
  have hG : env.globals = mainGlobals := by rw [<- henv]; rfl
  have hBl : env.builtins = builtinsNs := by rw [<- henv]; rfl
  have hko : ∀ y, env.kindOf y = sc.names.lookup y := fun y => congrFun hcodeEnv y; have hns := x.toInCall.ns; have hLlt : s.heap.objs.size < h₁.objs.size := by rw [<- hL]; obtain ⟨o, _, _, e, _⟩ := hns; exact Heap.lt_size e
  have P : Pure s { s with heap := h₁, toks := tk } := Pure.mk' (fun b o e => x.toInCall.keep b o e) hm; have arg : ∀ (y : Str) (i : Nat) (p : PV), (f.cx sc).vars.lookup y = some i -> lk (initPE ps f.n) i = some p -> f.pars[i]? = some y /\ ps[i]? = some p /\ f.own.contains i = false /\ f.tk.contains i = false := by
    intro y i p h1 h2; have h3 := lk_init h2; have hi : i < f.pars.length := by rw [<- hlen]; exact (List.getElem?_eq_some_iff.mp h3).1
    have h4 : f.pars[i]? = some f.pars[i] := by simp [hi]
    obtain ⟨q1, q2, q3, _⟩ := parsOk_at c9 h4; simp only [Nat.zero_add] at q1 q2 q3; have : y = f.pars[i] := nodupN_inj c6 h1 q1; exact ⟨by rw [this]; exact h4, h3, q2, q3⟩
  have X : EnvR prog w h₀ (f.cx sc) (asgOf sc) env { s with heap := h₁, toks := tk } N (fun b => s.heap.objs.size <= b /\ b < h₁.objs.size) (initPE ps f.n) := {
    base := { (Bs.pure P) with
      above := fun b q => q.elim (Bs.above b) fun q => Nat.le_trans Bs.size q.1
      low := fun b q => q.elim (fun q => Nat.lt_trans (Bs.low b q) hLlt) fun q => q.2 }
    kind := by rw [hS]; exact hkind
    glb := hG
    blt := hBl
    gl := fun y hy => by rw [hko]; exact hy
    cl := fun y hy => by
      have hy' : sc.names.lookup y = some .cell := by
        rcases hy with hy | hy
        · exact hy
        · have := List.all_eq_true.mp c7 _ (mem_lookup hy); simp at this
      obtain ⟨c, q1, q2⟩ := hcf y hy'; exact ⟨.inl (by rw [hko]; exact hy'), c, _, by rw [hC]; exact q1, x.cell y c (by rw [hC]; exact q1)⟩
    ns := ⟨_, hns⟩
    noL := by rw [hL]; exact ⟨Nat.le_refl _, hLlt⟩
    apart := fun y z c h1 h2 => name_of_addr x.apart (mem_lookup h1) (mem_lookup h2)
    cellsLow := fun y c h => (x.cell y c h).lt
    vars := fun y i p h1 h2 => by
      obtain ⟨h3, h4, h5, h6⟩ := arg y i p h1 h2; obtain ⟨v, hv, rv⟩ := rs.get h4; have hb := bind_at (ko := env.kindOf) (m := fun _ => none) (m' := fun _ => none) c8 h3 hv; refine ⟨v, ?_, ?_, fun h => by rw [show (f.cx sc).tk.contains i = f.tk.contains i from rfl, h6] at h; cases h⟩
      · have hk := (parsOk_at c9 h3).2.2.2; rcases hk with hk | hk
        · exact .loc _ (by rw [hko]; exact hk) hns (hb.1 (by rw [hko]; exact hk))
        · obtain ⟨c, q1, q2⟩ := hcf y hk; have := x.cell y c (by rw [hC]; exact q1); rw [hb.2 (by rw [hko, hk]; decide)] at this; exact .cell c (.inl (by rw [hko]; exact hk)) (by rw [hC]; exact q1) this
      · rw [show (f.cx sc).own.contains i = f.own.contains i from rfl, h5]; exact rv.step ⟨fun b o _ e => Pure.keep P b o e, Nat.le_of_lt hLlt, fun b q => q.elim .inl fun q => .inr q.1⟩
    stores := fun y hy => by
      obtain ⟨⟨n, k⟩, hm', e⟩ := List.mem_map.mp hy; simp only at e; subst e; obtain ⟨hm1, hm2⟩ := List.mem_filter.mp hm'; simp only [Bool.or_eq_true] at hm2; rcases hm2 with hm2 | hm2
      · exact .loc (by rw [hko, nodup_lookup c4 hm1, eq_of_beq hm2])
      · have hk : sc.names.lookup n = some .cell := by rw [nodup_lookup c4 hm1, eq_of_beq hm2]
        obtain ⟨c, q1, q2⟩ := hcf n hk; have hcell := x.cell n c (by rw [hC]; exact q1); exact .cell c _ (by rw [hko]; exact hk) (by rw [hC]; exact q1) ⟨Nat.le_of_succ_le q2, hcell.lt⟩ hcell
    inj := fun y z i h1 h2 => nodupN_inj c6 h1 h2
    alone := fun y z i j b h1 h2 h3 h4 h5 h6 h7 h8 => by
      obtain ⟨p, hp⟩ := Option.isSome_iff_exists.mp h3; have := (arg y i p h1 hp).2.2.1; rw [show (f.cx sc).own.contains i = f.own.contains i from rfl, this] at h5; cases h5
    disj := fun b hb ha => absurd (Bs.low b ha) (Nat.not_lt.mpr hb.1)
    turns := fun y i b h1 h2 h3 h4 => by
      obtain ⟨p, hp⟩ := Option.isSome_iff_exists.mp h3; have := (arg y i p h1 hp).2.2.1; rw [show (f.cx sc).own.contains i = f.own.contains i from rfl, this] at h2; cases h2 }
  have R' : Room (A.deeper env) (nss f.code + B) := ⟨R.hh, by have := R.depth; show A.depth + 1 + _ < 900; omega, by have := R.units; show A.units + 3 + _ < 9000; omega⟩; refine execsAll hB GK FK g f.code rfl R' X c10 hden fun fl s' No' he X' hf => ?_; cases hf with
  | ret hr =>
    have he' := P.toExt (No := fun _ => False) (No' := fun b => s.heap.objs.size <= b /\ b < h₁.objs.size) fun b q => .inr q.1; have he2 := he'.trans he; exact hQ _ s' ⟨⟨fun b o _ e => he2.step.keep b o (fun q => q) e, he2.step.grow, fun _ q => q.elim⟩, he2.gens, he2.bare, he2.os, he2.drawn, Ext.toks he2⟩ hr
end
end Mine
end
section
open PySem PySem.W PyProof.Rows
namespace Mine
def FT (funs : List FSpec) : Nat -> Nat -> List PV -> Option PV
  | 0 => fun _ _ => none
  | n + 1 => fun f args => match funs[f]? with
    | some fs => denF (FT funs n) fs args
    | none => none
structure FunRec (GL : List (Str × G)) (h₀ : Heap) (a : Addr) (f : FSpec) where
  name : Str
  params : Arguments
  body : List Stmt
  sc : Scope
  pm : Value
  cd : Value
  doc : Value
  o : Obj
  chk : chkF GL f body sc = true
  at_ : h₀.get? a = some o
  data : o.data = .func (Calls.docDef name params body sc pm cd doc)
  code : h₀.CodeRec cd name
  bind : ∀ vs : List Value, vs.length = f.pars.length -> bindArgs (Calls.docDef name params body sc pm cd doc) ⟨vs, []⟩ = Pure.pure (f.pars.zip vs)
section
variable {prog : Program} {w : World} {h₀ : Heap} {GL : List (Str × G)} {fa : Nat -> Addr}
theorem funOK_table {funs : List FSpec} {mx : Nat} (GK : Glo prog w h₀ GL fa) (g : GenRec GL h₀ (fa 1000)) (hr : ∀ k f, funs[k]? = some f -> Nonempty (FunRec GL h₀ (fa k) f)) (hm : ∀ f ∈ funs, nss f.code <= mx) :
    ∀ n : Nat, FunOK prog w h₀ (FT funs n) fa (3 + n * (mx + 1))
  | 0 => by
    intro f A s N vs ps r Q E R Bs rs hd; cases hd
  | n + 1 => by
    intro f A s N vs ps r Q E R Bs rs hd hQ; simp only [FT] at hd; split at hd
    · rename_i fs hf; obtain ⟨x⟩ := hr f fs hf; have hle := hm fs (List.mem_of_getElem? hf); exact fun_sound (by omega) GK (funOK_table GK g hr hm n) g x.chk x.at_ x.data x.code x.bind (R.le (by rw [Nat.succ_mul]; omega)) Bs rs hd hQ
    · cases hd
end
end Mine
end
section
open PySem PySem.W PyProof.Rows
namespace Mine
open PySem.Float64 (decode Right sgn dist infMag pack)
def FinF (x : UInt64) : Prop := ∃ a m e, decode x = .fin a m e
theorem V_rep : ∀ (k q : Nat), q <= 2 ^ 53 -> ∃ t, Float64.V t = q * 2 ^ k
  | 0, q, h => ⟨_, Float64.V_at (k := 0) h (.inr rfl)⟩
  | k + 1, q, h => by
    by_cases h2 : 2 ^ 52 <= q
    · exact ⟨_, Float64.V_at (k := k + 1) h (.inl h2)⟩
    · obtain ⟨t, ht⟩ := V_rep k (2 * q) (by omega); exact ⟨t, by rw [ht, Nat.pow_succ]; rw [Nat.mul_comm 2 q, Nat.mul_assoc, Nat.mul_comm 2]⟩
theorem near {r : UInt64} {neg : Bool} {W D : Nat} (h : Right r neg W D) (hD : 0 < D) (k : Nat) (hk : k <= 2040) (hW : W <= D * (2 ^ 53 * 2 ^ k)) :
    FinF r /\ ∃ U : Nat, Float64.val r = sgn neg U /\ 2 * dist W (D * U) <= D * 2 ^ k /\ (∀ q, q <= 2 ^ 53 -> W = D * (q * 2 ^ k) -> W = D * U) := by
  obtain ⟨t, rfl, ht, hinf, hn⟩ := h; have hlt : t < infMag := by
    rcases Nat.lt_or_ge t infMag with h | h
    · exact h
    · exfalso; have := hinf.mp (by omega); have h2 : D * ((2 ^ 54 - 1) * 2 ^ 2045) <= D * (2 * (2 ^ 53 * 2 ^ k)) := by
        refine Nat.le_trans this ?_; rw [Nat.mul_left_comm]; exact Nat.mul_le_mul_left 2 hW
      have h3 := Nat.le_of_mul_le_mul_left h2 hD; have h4 : (2 : Nat) ^ k <= 2 ^ 2040 := Nat.pow_le_pow_right (by decide) hk; have h5 : 2 * (2 ^ 53 * 2 ^ k) <= 2 * (2 ^ 53 * 2 ^ 2040) := Nat.mul_le_mul_left 2 (Nat.mul_le_mul_left _ h4); have h6 := Nat.le_trans h3 h5; exact absurd h6 (by decide +kernel)
  have hn := hn hlt; obtain ⟨m, e, hd, hv⟩ := Float64.decode_pack neg hlt; have hval : Float64.val (pack neg t) = sgn neg (Float64.V t) := by rw [Float64.val_eq hd, hv]
  refine ⟨⟨_, _, _, hd⟩, _, hval, ?_, ?_⟩
  · have hp : 0 < 2 ^ k := Nat.two_pow_pos k; have hDp : 0 < D * 2 ^ k := Nat.mul_pos hD hp; have e1 := Nat.div_add_mod W (D * 2 ^ k); have e2 := Nat.mod_lt W hDp; generalize hq : W / (D * 2 ^ k) = q at e1; have hq53 : q <= 2 ^ 53 := by
      rw [<- hq]; refine Nat.div_le_of_le_mul ?_; refine Nat.le_trans hW (Nat.le_of_eq ?_); simp only [Nat.mul_assoc, Nat.mul_comm, Nat.mul_left_comm]
    obtain ⟨t0, ht0⟩ := V_rep k q hq53; have d0 := (hn t0).1; rw [ht0] at d0; have e3 : D * (q * 2 ^ k) = D * 2 ^ k * q := by simp only [Nat.mul_assoc, Nat.mul_comm, Nat.mul_left_comm]
    rw [e3] at d0; rcases Nat.lt_or_ge q (2 ^ 53) with h53 | h53
    · obtain ⟨t1, ht1⟩ := V_rep k (q + 1) h53; have d1 := (hn t1).1; rw [ht1] at d1; have e4 : D * ((q + 1) * 2 ^ k) = D * 2 ^ k * q + D * 2 ^ k := by rw [Nat.add_mul, Nat.one_mul, Nat.mul_add, e3]
      rw [e4] at d1; generalize D * 2 ^ k * q = a at *; generalize D * 2 ^ k = b at *; generalize D * Float64.V t = c at *; unfold dist at *; omega
    · have : q = 2 ^ 53 := by omega
      have hW' : W <= D * 2 ^ k * q := by
        refine Nat.le_trans hW (Nat.le_of_eq ?_); rw [this]; simp only [Nat.mul_assoc, Nat.mul_comm, Nat.mul_left_comm]
      generalize D * 2 ^ k * q = a at *; generalize D * 2 ^ k = b at *; generalize D * Float64.V t = c at *; unfold dist at *; omega
  · intro q hq hWq; obtain ⟨t0, ht0⟩ := V_rep k q hq; have d0 := (hn t0).1; rw [ht0, <- hWq] at d0; unfold dist at d0; omega
end Mine
end
section
open PySem PySem.W PyProof.Rows
set_option exponentiation.threshold 3000
namespace Mine
open PySem.Float64 (decode Right sgn dist infMag pack)
def K : Nat := 2 ^ 1074
theorem K_pos : 0 < K := Nat.two_pow_pos 1074
theorem K_eq : 2 ^ 1074 = K := rfl
theorem K_split (j : Nat) : 2 ^ 53 * 2 ^ (1021 + j) = K * 2 ^ j := by
  rw [Nat.pow_add, <- Nat.mul_assoc, <- Nat.pow_add]; rfl
theorem K_part {g : Nat} (h : g <= 1074) : 2 ^ (1074 - g) * 2 ^ g = K := by
  rw [<- Nat.pow_add, Nat.sub_add_cancel h]; rfl
def R (x : UInt64) : Rat := (Float64.val x : Rat) / (K : Rat)
theorem Kq_pos : (0 : Rat) < (K : Rat) := by exact_mod_cast K_pos
theorem R_val (x : UInt64) : (Float64.val x : Rat) = R x * (K : Rat) := by
  unfold R; have := Kq_pos; grind
theorem decode_inf' (b : Bool) : decode (pack b infMag) = .inf b := by cases b <;> kernel_rfl
theorem near_int {r : UInt64} {neg : Bool} {W D : Nat} (h : Right r neg W D) (hD : 0 < D) {j : Nat} (hj : j <= 1000) (hW : W <= D * (K * 2 ^ j)) :
    FinF r /\ (-((D * (K * 2 ^ j) : Nat) : Int) <= (Float64.val r * (D : Int) - sgn neg W) * 2 ^ 54 /\ (Float64.val r * (D : Int) - sgn neg W) * 2 ^ 54 <= ((D * (K * 2 ^ j) : Nat) : Int)) /\
      (∀ q g, g <= 1074 -> q <= 2 ^ 53 -> W * 2 ^ g = D * (q * K) -> Float64.val r * (D : Int) = sgn neg W) := by
  obtain ⟨hf, U, hv, hd, he⟩ := near h hD (1021 + j) (by omega) (by rw [K_split]; exact hW); refine ⟨hf, ?_, ?_⟩
  · have e1 : 2 ^ 53 * (D * 2 ^ (1021 + j)) = D * (K * 2 ^ j) := by rw [<- K_split]; simp only [Nat.mul_left_comm]
    have e2 : 2 ^ 54 * dist W (D * U) <= D * (K * 2 ^ j) := by
      rw [<- e1]; have := Nat.mul_le_mul_left (2 ^ 53) hd; omega
    rw [hv]; generalize D * (K * 2 ^ j) = B at *; have e3 : sgn neg U * (D : Int) = sgn neg (D * U) := by
      unfold sgn; cases neg
      · simp [Int.mul_comm]
      · simp [Int.mul_comm, Int.mul_neg]
    rw [e3]; generalize D * U = c at *; unfold sgn; unfold dist at e2; cases neg
    · simp only [Bool.false_eq_true, if_false]; omega
    · simp only [if_true]; omega
  · intro q g hg hq hW2; have e4 : W = D * (q * 2 ^ (1074 - g)) := by
      have : W * 2 ^ g = D * (q * 2 ^ (1074 - g)) * 2 ^ g := by rw [hW2, <- K_part hg]; simp only [Nat.mul_assoc]
      exact Nat.eq_of_mul_eq_mul_right (Nat.two_pow_pos g) this
    have hk : W = D * U := by
      by_cases hb : 1074 - g <= 2040
      · -- use exactness at the finer grid
        have hh := near h hD (1021 + j) (by omega) (by rw [K_split]; exact hW); obtain ⟨t, rfl, ht, hinf, hn⟩ := h; obtain ⟨t0, ht0⟩ := V_rep (1074 - g) q hq; have hlt : t < infMag := by
          rcases Nat.lt_or_ge t infMag with h | h
          · exact h
          · exfalso; have : t = infMag := by omega
            subst this; obtain ⟨a, m, e, hd'⟩ := hf; revert hd'; rw [decode_inf']; intro hd'; cases hd'
        have d0 := (hn hlt t0).1; rw [ht0, <- e4] at d0; obtain ⟨m, e, hdd, hvv⟩ := Float64.decode_pack neg hlt; have : Float64.val (pack neg t) = sgn neg (Float64.V t) := by rw [Float64.val_eq hdd, hvv]
        rw [this] at hv; have hU : U = Float64.V t := by
          unfold sgn at hv; cases neg
          · simp only [Bool.false_eq_true, if_false] at hv; omega
          · simp only [if_true] at hv; omega
        rw [hU]; unfold dist at d0; omega
      · omega
    rw [hv, hk]; unfold sgn; cases neg
    · simp [Int.mul_comm]
    · simp [Int.mul_comm, Int.mul_neg]
theorem sgn_abs {x : UInt64} {a : Bool} {m : Nat} {e : Int} (h : decode x = .fin a m e) : sgn a (Float64.val x).natAbs = Float64.val x := by
  rw [Float64.val_natAbs h, Float64.val_eq h]
theorem sgn_mul2 (a b : Bool) (m n : Nat) : sgn (a != b) (m * n) = sgn a m * sgn b n := by
  unfold sgn; cases a <;> cases b <;> simp [Int.natCast_mul, Int.neg_mul, Int.mul_neg]
theorem sgn_lt (w : Int) : sgn (decide (w < 0)) w.natAbs = w := by
  unfold sgn
  by_cases h : w < 0
  · simp [h]; omega
  · simp [h]; omega
theorem sgn_scale (a : Bool) (m n : Nat) : sgn a (m * n) = sgn a m * (n : Int) := Float64.sgn_mul a m n
theorem decode_zero' (b : Bool) : decode (Float64.zero b) = .fin b 0 (-1074) := by cases b <;> kernel_rfl
theorem fin_zero (b : Bool) : FinF (Float64.zero b) := ⟨_, _, _, decode_zero' b⟩
theorem val_zero (b : Bool) : Float64.val (Float64.zero b) = 0 := by rw [Float64.val_eq (decode_zero' b)]; cases b <;> simp [sgn]
section
variable {x y : UInt64}
theorem add_int (hx : FinF x) (hy : FinF y) {j : Nat} (hj : j <= 1000) (hb : (Float64.val x + Float64.val y).natAbs <= K * 2 ^ j) :
    FinF (Float64.add x y) /\ (-((K * 2 ^ j : Nat) : Int) <= (Float64.val (Float64.add x y) - (Float64.val x + Float64.val y)) * 2 ^ 54 /\ (Float64.val (Float64.add x y) - (Float64.val x + Float64.val y)) * 2 ^ 54 <= ((K * 2 ^ j : Nat) : Int)) /\
      (∀ q g, g <= 1074 -> q <= 2 ^ 53 -> (Float64.val x + Float64.val y).natAbs * 2 ^ g = q * K -> Float64.val (Float64.add x y) = Float64.val x + Float64.val y) := by
  obtain ⟨a, m, e, hx⟩ := hx; obtain ⟨b, k, f, hy⟩ := hy; obtain ⟨h0, h1⟩ := Float64.add_right hx hy; generalize Float64.val x + Float64.val y = w at *
  by_cases hw : w = 0
  · rw [h0 hw, val_zero, hw]; refine ⟨fin_zero _, ?_, fun _ _ _ _ _ => rfl⟩; omega
  · have := near_int (h1 hw) (by decide) hj (by rw [Nat.one_mul]; exact hb); rw [sgn_lt] at this
    simpa using this
theorem mul_int (hx : FinF x) (hy : FinF y) {j : Nat} (hj : j <= 1000) (hb : (Float64.val x * Float64.val y).natAbs <= K * (K * 2 ^ j)) :
    FinF (Float64.mul x y) /\ (-((K * (K * 2 ^ j) : Nat) : Int) <= (Float64.val (Float64.mul x y) * (K : Int) - (Float64.val x * Float64.val y)) * 2 ^ 54 /\ (Float64.val (Float64.mul x y) * (K : Int) - (Float64.val x * Float64.val y)) * 2 ^ 54 <= ((K * (K * 2 ^ j) : Nat) : Int)) /\
      (∀ q g, g <= 1074 -> q <= 2 ^ 53 -> (Float64.val x * Float64.val y).natAbs * 2 ^ g = K * (q * K) -> Float64.val (Float64.mul x y) * (K : Int) = Float64.val x * Float64.val y) := by
  obtain ⟨a, m, e, hx⟩ := hx; obtain ⟨b, k, f, hy⟩ := hy; have h1 := Float64.mul_right hx hy; rw [Int.natAbs_mul] at hb ⊢; have := near_int h1 K_pos hj hb; rw [sgn_mul2, sgn_abs hx, sgn_abs hy, K_eq] at this; exact this
theorem div_int (hx : FinF x) (hy : FinF y) (h0 : Float64.val y ≠ 0) {j : Nat} (hj : j <= 1000) (hb : (Float64.val x).natAbs * K <= (Float64.val y).natAbs * (K * 2 ^ j)) :
    FinF (Float64.div x y) /\ (-(((Float64.val y).natAbs * (K * 2 ^ j) : Nat) : Int) <= (Float64.val (Float64.div x y) * Float64.val y - Float64.val x * (K : Int)) * 2 ^ 54 /\ (Float64.val (Float64.div x y) * Float64.val y - Float64.val x * (K : Int)) * 2 ^ 54 <= (((Float64.val y).natAbs * (K * 2 ^ j) : Nat) : Int)) /\
      (∀ q g, g <= 1074 -> q <= 2 ^ 53 -> (Float64.val x).natAbs * K * 2 ^ g = (Float64.val y).natAbs * (q * K) -> Float64.val (Float64.div x y) * Float64.val y = Float64.val x * (K : Int)) := by
  obtain ⟨a, m, e, hx⟩ := hx; obtain ⟨b, k, f, hy⟩ := hy; have hk : k ≠ 0 := by
    intro h; subst h; rw [Float64.val_eq hy] at h0; apply h0; cases b <;> simp [sgn]
  have h1 := Float64.div_right hx hy hk; have hpos : 0 < (Float64.val y).natAbs := by omega
  have := near_int h1 hpos hj hb; have sx := sgn_abs hx; have sy := sgn_abs hy; rw [K_eq] at this; rw [sgn_scale] at this; generalize Float64.val (Float64.div x y) = z at *; have key : sgn (a != b) (Float64.val x).natAbs * (K : Int) = (if b then -1 else 1) * (Float64.val x * (K : Int)) /\ ((Float64.val y).natAbs : Int) = (if b then -1 else 1) * Float64.val y := by
    constructor
    · rw [<- Int.mul_assoc]; congr 1; rw [<- sx]; unfold sgn; cases a <;> cases b <;> simp
    · conv => rhs; rw [<- sy]
      unfold sgn; cases b <;> simp
  obtain ⟨k1, k2⟩ := key; rw [k1] at this; obtain ⟨t1, t2, t3⟩ := this; refine ⟨t1, ?_, fun q g hg hq he => ?_⟩
  · cases b
    · simp only [Bool.false_eq_true, if_false, Int.one_mul] at k2 t2; rw [k2] at t2; rw [Int.natCast_mul, k2] at t2 ⊢; exact t2
    · simp only [if_true, Int.neg_mul, Int.one_mul] at k2 t2; rw [k2] at t2; rw [Int.natCast_mul, k2] at t2 ⊢; have : z * -Float64.val y - -(Float64.val x * (K : Int)) = -(z * Float64.val y - Float64.val x * (K : Int)) := by rw [Int.mul_neg]; omega
      rw [this] at t2; generalize z * Float64.val y - Float64.val x * (K : Int) = d at *; generalize -Float64.val y * ((K * 2 ^ j : Nat) : Int) = c at *; omega
  · have := t3 q g hg hq he; rw [k2] at this; cases b
    · simpa using this
    · simp only [if_true, Int.neg_mul, Int.one_mul, Int.mul_neg] at this; omega
end
end Mine
end
section
open PySem PySem.W PyProof.Rows
set_option exponentiation.threshold 3000
namespace Mine
open PySem.Float64 (decode Right sgn dist infMag pack)
theorem natAbs_le_of {z : Int} {n : Nat} (h1 : -(n : Int) <= z) (h2 : z <= (n : Int)) : z.natAbs <= n := by omega
structure Pw (M : Nat) where
  j : Nat
  le : j <= 1000
  eq : M = 2 ^ j
theorem canR {a b c : Rat} (hc : 0 < c) (h : a * c <= b * c) : a <= b := Rat.le_of_mul_le_mul_right h hc
theorem canE {a b c : Rat} (hc : 0 < c) (h : a * c = b * c) : a = b := by
  refine Rat.le_antisymm (canR hc (by rw [h]; exact Rat.le_refl)) (canR hc (by rw [h]; exact Rat.le_refl))
theorem mulK {a b c : Rat} (hc : 0 < c) (h : a <= b) : a * c <= b * c := Rat.mul_le_mul_of_nonneg_right h (Rat.le_of_lt hc)
def Dy (q : Rat) : Prop := ∃ (n : Int) (g : Nat), g <= 1074 /\ n.natAbs <= 2 ^ 53 /\ q * (2 ^ g : Nat) = n
section
variable {x y : UInt64}
theorem add_R (hx : FinF x) (hy : FinF y) {M : Nat} (p : Pw M) (h1 : -(M : Rat) <= R x + R y) (h2 : R x + R y <= (M : Rat)) :
    FinF (Float64.add x y) /\ R x + R y - (M : Rat) / 2 ^ 54 <= R (Float64.add x y) /\ R (Float64.add x y) <= R x + R y + (M : Rat) / 2 ^ 54 /\ (Dy (R x + R y) -> R (Float64.add x y) = R x + R y) := by
  obtain ⟨j, hj, rfl⟩ := p; have kp := Kq_pos; have b1 : -(((K * 2 ^ j : Nat) : Int) : Rat) <= ((Float64.val x + Float64.val y : Int) : Rat) := by
    push_cast; rw [R_val, R_val]; have := mulK kp h1; push_cast at this; grind
  have b2 : ((Float64.val x + Float64.val y : Int) : Rat) <= (((K * 2 ^ j : Nat) : Int) : Rat) := by
    push_cast; rw [R_val, R_val]; have := mulK kp h2; push_cast at this; grind
  obtain ⟨hf, ⟨d1, d2⟩, d3⟩ := add_int hx hy hj (natAbs_le_of (by exact_mod_cast b1) (by exact_mod_cast b2)); have e1 : -(((K * 2 ^ j : Nat) : Int) : Rat) <= (((Float64.val (Float64.add x y) - (Float64.val x + Float64.val y)) * 2 ^ 54 : Int) : Rat) := by exact_mod_cast d1
  have e2 : (((Float64.val (Float64.add x y) - (Float64.val x + Float64.val y)) * 2 ^ 54 : Int) : Rat) <= (((K * 2 ^ j : Nat) : Int) : Rat) := by exact_mod_cast d2
  push_cast at e1 e2; rw [R_val, R_val, R_val] at e1 e2; refine ⟨hf, canR kp ?_, canR kp ?_, ?_⟩
  · push_cast; grind
  · push_cast; grind
  · rintro ⟨n, g, hg, hn, he⟩
    have h5 : (((Float64.val x + Float64.val y) * ((2 ^ g : Nat) : Int) : Int) : Rat) = ((n * (K : Int) : Int) : Rat) := by
      push_cast; rw [R_val, R_val]; push_cast at he; grind
    have h6 : (Float64.val x + Float64.val y) * ((2 ^ g : Nat) : Int) = n * (K : Int) := by exact_mod_cast h5
    have h7 := congrArg Int.natAbs h6; rw [Int.natAbs_mul, Int.natAbs_mul] at h7; simp only [Int.natAbs_natCast] at h7; have h8 := d3 n.natAbs g hg hn h7; refine canE kp ?_; have h9 : ((Float64.val (Float64.add x y) : Int) : Rat) = ((Float64.val x + Float64.val y : Int) : Rat) := by rw [h8]
    push_cast at h9; rw [R_val, R_val, R_val] at h9; grind
theorem mul_R (hx : FinF x) (hy : FinF y) {M : Nat} (p : Pw M) (h1 : -(M : Rat) <= R x * R y) (h2 : R x * R y <= (M : Rat)) :
    FinF (Float64.mul x y) /\ R x * R y - (M : Rat) / 2 ^ 54 <= R (Float64.mul x y) /\ R (Float64.mul x y) <= R x * R y + (M : Rat) / 2 ^ 54 /\ (Dy (R x * R y) -> R (Float64.mul x y) = R x * R y) := by
  obtain ⟨j, hj, rfl⟩ := p; have kp := Kq_pos; have b1 : -(((K * (K * 2 ^ j) : Nat) : Int) : Rat) <= ((Float64.val x * Float64.val y : Int) : Rat) := by
    push_cast; rw [R_val, R_val]; have := mulK kp (mulK kp h1); push_cast at this; grind
  have b2 : ((Float64.val x * Float64.val y : Int) : Rat) <= (((K * (K * 2 ^ j) : Nat) : Int) : Rat) := by
    push_cast; rw [R_val, R_val]; have := mulK kp (mulK kp h2); push_cast at this; grind
  obtain ⟨hf, ⟨d1, d2⟩, d3⟩ := mul_int hx hy hj (natAbs_le_of (by exact_mod_cast b1) (by exact_mod_cast b2)); have e1 : -(((K * (K * 2 ^ j) : Nat) : Int) : Rat) <= (((Float64.val (Float64.mul x y) * (K : Int) - (Float64.val x * Float64.val y)) * 2 ^ 54 : Int) : Rat) := by exact_mod_cast d1
  have e2 : (((Float64.val (Float64.mul x y) * (K : Int) - (Float64.val x * Float64.val y)) * 2 ^ 54 : Int) : Rat) <= (((K * (K * 2 ^ j) : Nat) : Int) : Rat) := by exact_mod_cast d2
  push_cast at e1 e2; rw [R_val, R_val, R_val] at e1 e2; refine ⟨hf, canR kp (canR kp ?_), canR kp (canR kp ?_), ?_⟩
  · push_cast; grind
  · push_cast; grind
  · rintro ⟨n, g, hg, hn, he⟩
    have h5 : (((Float64.val x * Float64.val y) * ((2 ^ g : Nat) : Int) : Int) : Rat) = (((K : Int) * (n * (K : Int)) : Int) : Rat) := by
      push_cast; rw [R_val, R_val]; push_cast at he; grind
    have h6 : (Float64.val x * Float64.val y) * ((2 ^ g : Nat) : Int) = (K : Int) * (n * (K : Int)) := by exact_mod_cast h5
    have h7 := congrArg Int.natAbs h6; rw [Int.natAbs_mul, Int.natAbs_mul, Int.natAbs_mul] at h7; rw [Int.natAbs_mul] at h7; simp only [Int.natAbs_natCast] at h7; have h8 := d3 n.natAbs g hg hn (by rw [Int.natAbs_mul]; exact h7); refine canE kp (canE kp ?_); have h9 : ((Float64.val (Float64.mul x y) * (K : Int) : Int) : Rat) = ((Float64.val x * Float64.val y : Int) : Rat) := by rw [h8]
    push_cast at h9; rw [R_val, R_val, R_val] at h9; grind
theorem div_R (hx : FinF x) (hy : FinF y) (h0 : 0 < R y) {M : Nat} (p : Pw M) (h1 : -((M : Rat) * R y) <= R x) (h2 : R x <= (M : Rat) * R y) :
    FinF (Float64.div x y) /\ R x / R y - (M : Rat) / 2 ^ 54 <= R (Float64.div x y) /\ R (Float64.div x y) <= R x / R y + (M : Rat) / 2 ^ 54 /\ (Dy (R x / R y) -> R (Float64.div x y) = R x / R y) := by
  obtain ⟨j, hj, rfl⟩ := p; have kp := Kq_pos; have hy0 : 0 < Float64.val y := by
    have : (0 : Rat) * (K : Rat) < R y * (K : Rat) := Rat.mul_lt_mul_of_pos_right h0 kp; rw [<- R_val, Rat.zero_mul] at this
    exact_mod_cast this
  have hya : ((Float64.val y).natAbs : Int) = Float64.val y := by omega
  have hyq : (((Float64.val y).natAbs : Nat) : Rat) = R y * (K : Rat) := by
    rw [<- R_val]; exact_mod_cast congrArg (fun z : Int => (z : Rat)) hya
  have b1 : -((((Float64.val y).natAbs * (K * 2 ^ j) : Nat) : Int) : Rat) <= ((Float64.val x * (K : Int) : Int) : Rat) := by
    push_cast; rw [hyq, R_val]; have := mulK kp (mulK kp h1); push_cast at this; grind
  have b2 : ((Float64.val x * (K : Int) : Int) : Rat) <= ((((Float64.val y).natAbs * (K * 2 ^ j) : Nat) : Int) : Rat) := by
    push_cast; rw [hyq, R_val]; have := mulK kp (mulK kp h2); push_cast at this; grind
  have hb := natAbs_le_of (by exact_mod_cast b1 : -(((Float64.val y).natAbs * (K * 2 ^ j) : Nat) : Int) <= Float64.val x * (K : Int)) (by exact_mod_cast b2); rw [Int.natAbs_mul, Int.natAbs_natCast] at hb; obtain ⟨hf, ⟨d1, d2⟩, d3⟩ := div_int hx hy (by omega) hj hb; have e1 : -((((Float64.val y).natAbs * (K * 2 ^ j) : Nat) : Int) : Rat) <= (((Float64.val (Float64.div x y) * Float64.val y - Float64.val x * (K : Int)) * 2 ^ 54 : Int) : Rat) := by exact_mod_cast d1
  have e2 : (((Float64.val (Float64.div x y) * Float64.val y - Float64.val x * (K : Int)) * 2 ^ 54 : Int) : Rat) <= ((((Float64.val y).natAbs * (K * 2 ^ j) : Nat) : Int) : Rat) := by exact_mod_cast d2
  push_cast at e1 e2; rw [hyq, R_val, R_val, R_val] at e1 e2; have hd : R x / R y * R y = R x := by grind
  generalize R x / R y = Q at *; rw [<- hd] at e1 e2; refine ⟨hf, canR h0 (canR kp (canR kp ?_)), canR h0 (canR kp (canR kp ?_)), ?_⟩
  · push_cast; clear d1 d2 d3 b1 b2 hb hyq hya h1 h2 hd; grind
  · push_cast; clear d1 d2 d3 b1 b2 hb hyq hya h1 h2 hd; grind
  · rintro ⟨n, g, hg, hn, he⟩
    have h5 : (((Float64.val x * (K : Int)) * ((2 ^ g : Nat) : Int) : Int) : Rat) = (((Float64.val y) * (n * (K : Int)) : Int) : Rat) := by
      push_cast; rw [R_val, R_val]; push_cast at he; rw [<- hd, <- he]; grind
    have h6 : (Float64.val x * (K : Int)) * ((2 ^ g : Nat) : Int) = (Float64.val y) * (n * (K : Int)) := by exact_mod_cast h5
    have h7 := congrArg Int.natAbs h6; simp only [Int.natAbs_mul, Int.natAbs_natCast] at h7; have h8 := d3 n.natAbs g hg hn h7; refine canE h0 (canE kp (canE kp ?_)); have h9 : ((Float64.val (Float64.div x y) * Float64.val y : Int) : Rat) = ((Float64.val x * (K : Int) : Int) : Rat) := by rw [h8]
    push_cast at h9; rw [R_val, R_val, R_val] at h9; grind
end
end Mine
end
section
open PySem PySem.W PyProof.Rows
set_option exponentiation.threshold 3000
namespace Mine
open PySem.Float64 (decode Right sgn dist infMag pack)
section
variable {x y : UInt64}
theorem fin_neg (hy : FinF y) : FinF (Float64.neg y) := let ⟨_, _, _, h⟩ := hy; ⟨_, _, _, Float64.neg_decode h⟩
theorem R_neg (hy : FinF y) : R (Float64.neg y) = -R y := by
  obtain ⟨b, k, f, h⟩ := hy; unfold R; rw [Float64.neg_val h]; push_cast; grind
theorem sub_R (hx : FinF x) (hy : FinF y) {M : Nat} (p : Pw M) (h1 : -(M : Rat) <= R x - R y) (h2 : R x - R y <= (M : Rat)) :
    FinF (Float64.sub x y) /\ R x - R y - (M : Rat) / 2 ^ 54 <= R (Float64.sub x y) /\ R (Float64.sub x y) <= R x - R y + (M : Rat) / 2 ^ 54 /\ (Dy (R x - R y) -> R (Float64.sub x y) = R x - R y) := by
  have := add_R hx (fin_neg hy) p (by rw [R_neg hy]; grind) (by rw [R_neg hy]; grind); rw [R_neg hy, <- Rat.sub_eq_add_neg] at this; unfold Float64.sub; exact this
theorem R_of_val {n d : Int} (hd : 0 < d) (h : Float64.val x * d = n * (K : Int)) : R x = (n : Rat) / (d : Rat) := by
  have kp := Kq_pos; have h1 : ((Float64.val x * d : Int) : Rat) = ((n * (K : Int) : Int) : Rat) := by rw [h]
  push_cast at h1; rw [R_val] at h1; have hd' : (0 : Rat) < (d : Rat) := by exact_mod_cast hd
  refine canE hd' (canE kp ?_); have : (n : Rat) / (d : Rat) * (d : Rat) = n := by grind
  rw [this]; grind
theorem frac_R {n d : Nat} {s : Bool} (hd : 0 < d) {M : Nat} (p : Pw M) (hM : n <= d * M) :
    FinF (Float64.ofFrac s n d) /\ ((sgn s n : Int) : Rat) / (d : Rat) - (M : Rat) / 2 ^ 54 <= R (Float64.ofFrac s n d) /\ R (Float64.ofFrac s n d) <= ((sgn s n : Int) : Rat) / (d : Rat) + (M : Rat) / 2 ^ 54 /\
      (Dy (((sgn s n : Int) : Rat) / (d : Rat)) -> R (Float64.ofFrac s n d) = ((sgn s n : Int) : Rat) / (d : Rat)) := by
  obtain ⟨j, hj, rfl⟩ := p; have kp := Kq_pos; have hr : Right (Float64.ofFrac s n d) s (n * K) d := Float64.ofFrac_right hd (by rw [K_eq]) hd; have hW : n * K <= d * (K * 2 ^ j) := by
    rw [Nat.mul_comm K, <- Nat.mul_assoc]; exact Nat.mul_le_mul_right _ hM
  obtain ⟨hf, ⟨d1, d2⟩, d3⟩ := near_int hr hd hj hW; rw [sgn_scale] at d1 d2 d3; have hd' : (0 : Rat) < (d : Rat) := by exact_mod_cast hd
  have e1 : -(((d * (K * 2 ^ j) : Nat) : Int) : Rat) <= (((Float64.val (Float64.ofFrac s n d) * (d : Int) - sgn s n * (K : Int)) * 2 ^ 54 : Int) : Rat) := by exact_mod_cast d1
  have e2 : (((Float64.val (Float64.ofFrac s n d) * (d : Int) - sgn s n * (K : Int)) * 2 ^ 54 : Int) : Rat) <= (((d * (K * 2 ^ j) : Nat) : Int) : Rat) := by exact_mod_cast d2
  push_cast at e1 e2; rw [R_val] at e1 e2; have hq : ((sgn s n : Int) : Rat) / (d : Rat) * (d : Rat) = ((sgn s n : Int) : Rat) := by grind
  generalize hS : ((sgn s n : Int) : Rat) / (d : Rat) = Q at *; rw [<- hq] at e1 e2; refine ⟨hf, canR hd' (canR kp ?_), canR hd' (canR kp ?_), ?_⟩
  · push_cast; clear d1 d2 d3 hq hS; grind
  · push_cast; clear d1 d2 d3 hq hS; grind
  · rintro ⟨m, g, hg, hm, he⟩
    have h5 : ((sgn s n * ((2 ^ g : Nat) : Int) : Int) : Rat) = ((m * (d : Int) : Int) : Rat) := by
      push_cast; push_cast at he; rw [<- hq]; grind
    have h6 : sgn s n * ((2 ^ g : Nat) : Int) = m * (d : Int) := by exact_mod_cast h5
    have h7 := congrArg Int.natAbs h6; rw [Int.natAbs_mul, Int.natAbs_mul, Float64.sgn_natAbs] at h7; simp only [Int.natAbs_natCast] at h7; have h8 := d3 m.natAbs g hg hm (by rw [Nat.mul_right_comm, h7]; simp only [Nat.mul_assoc, Nat.mul_comm, Nat.mul_left_comm]); refine canE hd' (canE kp ?_); have h9 : ((Float64.val (Float64.ofFrac s n d) * (d : Int) : Int) : Rat) = ((sgn s n * (K : Int) : Int) : Rat) := by rw [h8]
    push_cast at h9; rw [R_val] at h9; rw [hq]; grind
theorem ofInt_R {i : Int} (hi : i.natAbs <= 2 ^ 53) : FinF (Float64.ofInt i) /\ R (Float64.ofInt i) = (i : Rat) := by
  have := frac_R (n := i.natAbs) (d := 1) (s := decide (i < 0)) (by decide) (M := 2 ^ 53) ⟨53, by decide, rfl⟩ (by omega); rw [sgn_lt] at this; obtain ⟨h1, -, -, h4⟩ := this; have e : (i : Rat) / ((1 : Nat) : Rat) = (i : Rat) := by push_cast; grind
  rw [e] at h4; unfold Float64.ofInt; exact ⟨h1, h4 ⟨i, 0, by decide, hi, by push_cast; grind⟩⟩
theorem cmp_R (hx : FinF x) (hy : FinF y) : (Float64.cmp x y = some .lt <-> R x < R y) /\ (Float64.cmp x y = some .eq <-> R x = R y) /\ (Float64.cmp x y = some .gt <-> R y < R x) := by
  obtain ⟨a, m, e, hx⟩ := hx; obtain ⟨b, k, f, hy⟩ := hy; rw [Float64.cmp_right hx hy]; have kp := Kq_pos; have lt : ∀ u v : UInt64, Float64.val u < Float64.val v <-> R u < R v := by
    intro u v; constructor
    · intro h; have h1 : ((Float64.val u : Int) : Rat) < ((Float64.val v : Int) : Rat) := by exact_mod_cast h
      rw [R_val, R_val] at h1; exact Rat.lt_of_mul_lt_mul_right h1 (Rat.le_of_lt kp)
    · intro h; have h1 := Rat.mul_lt_mul_of_pos_right h kp; rw [<- R_val, <- R_val] at h1
      exact_mod_cast h1
  refine ⟨?_, ?_, ?_⟩
  · rw [Option.some.injEq, Int.compare_eq_lt]; exact lt x y
  · rw [Option.some.injEq, Int.compare_eq_eq]; constructor
    · intro h; unfold R; rw [h]
    · intro h; have h1 : R x * (K : Rat) = R y * (K : Rat) := by rw [h]
      rw [<- R_val, <- R_val] at h1
      exact_mod_cast h1
  · rw [Option.some.injEq, Int.compare_eq_gt]; exact lt y x
theorem cmp_of (hx : FinF x) (hy : FinF y) : Float64.cmp x y = some (if R x < R y then .lt else if R x = R y then .eq else .gt) := by
  obtain ⟨h1, h2, h3⟩ := cmp_R hx hy; split
  · exact h1.mpr (by assumption)
  · split
    · exact h2.mpr (by assumption)
    · exact h3.mpr (by grind)
theorem isZero_R (hx : FinF x) : Float64.isZero x = decide (R x = 0) := by
  obtain ⟨a, m, e, hx⟩ := hx; unfold Float64.isZero; rw [hx]; have hv := Float64.val_eq hx; have kp := Kq_pos; have : R x = 0 <-> m = 0 := by
    constructor
    · intro h; have h1 : ((Float64.val x : Int) : Rat) = ((0 : Int) : Rat) := by rw [R_val, h]; push_cast; grind
      have h2 : Float64.val x = 0 := by exact_mod_cast h1
      have h3 := Float64.val_natAbs hx; rw [h2] at h3; simp only [Int.natAbs_zero] at h3; rcases Nat.mul_eq_zero.mp h3.symm with h | h
      · exact h
      · exact absurd h (Nat.ne_of_gt (Nat.two_pow_pos _))
    · intro h; subst h; unfold R; rw [hv]; have : sgn a (0 * 2 ^ (e + 1074).toNat) = 0 := by rw [Nat.zero_mul]; unfold sgn; cases a <;> rfl
      rw [this]; simp [Rat.div_def]
  cases m with
  | zero => simp [this]
  | succ m => simp [this]
theorem decode_lt {a : Bool} {m : Nat} {e : Int} (h : decode x = .fin a m e) : m < 2 ^ 53 := by
  unfold decode at h; simp only at h; split at h
  · split at h <;> cases h
  · split at h
    · cases h; omega
    · cases h; omega
theorem decode_one : decode Float64.one = .fin false (2 ^ 52) (-52) := by kernel_rfl
theorem fin_one : FinF Float64.one := ⟨_, _, _, decode_one⟩
theorem R_one : R Float64.one = 1 := by
  have : Float64.val Float64.one * 1 = 1 * (K : Int) := by decide +kernel
  rw [R_of_val (by decide) this]; push_cast; grind
theorem fmod_one {a : Bool} {m : Nat} {e : Int} (hx : decode x = .fin a m e) : FinF (Float64.fmod x Float64.one) /\ Float64.val (Float64.fmod x Float64.one) = sgn a ((Float64.val x).natAbs % K) := by
  have he := Float64.decode_ge hx; have hm := decode_lt hx; have hfm : Float64.fmod x Float64.one = Float64.ofBin a (m * 2 ^ (e - min e (-52)).toNat % (2 ^ 52 * 2 ^ (-52 - min e (-52)).toNat)) (min e (-52)) := by
    unfold Float64.fmod; rw [hx, decode_one]; simp only [Float64.align, sgn, Bool.false_eq_true, if_false]; rw [if_neg (by decide)]; rfl
  generalize hg : min e (-52) = g at *; have hg1 : -1074 <= g := by omega
  have hg2 : g <= -52 := by omega
  have eq : 2 ^ 52 * 2 ^ (-52 - g).toNat = 2 ^ (-g).toNat := by rw [<- Nat.pow_add]; congr 1; omega
  rw [eq] at hfm; generalize hn : m * 2 ^ (e - g).toNat % 2 ^ (-g).toNat = n at *; have hn53 : n <= 2 ^ 53 := by
    rw [<- hn]; rcases Int.le_total e (-52) with h | h
    · have : (e - g).toNat = 0 := by omega
      rw [this, Nat.pow_zero, Nat.mul_one]; exact Nat.le_trans (Nat.mod_le _ _) (Nat.le_of_lt hm)
    · have : (-g).toNat = 52 := by omega
      rw [this]; have := Nat.mod_lt (m * 2 ^ (e - g).toNat) (y := 2 ^ 52) (by decide); omega
  have hnq : n <= 2 ^ (-g).toNat := by rw [<- hn]; exact Nat.le_of_lt (Nat.mod_lt _ (Nat.two_pow_pos _))
  have hK : 2 ^ (-g).toNat * 2 ^ (g + 1074).toNat = K := by rw [<- Nat.pow_add]; show 2 ^ _ = 2 ^ 1074; congr 1; omega
  have hr : Right (Float64.ofBin a n g) a (n * 2 ^ (g + 1074).toNat) 1 := by
    unfold Float64.ofBin; refine Float64.ofFrac_right (Float64.shift_pos _ _ _ (by decide)) ?_ (by decide); have := Float64.shift_one n g 1074 (by omega); rw [Nat.mul_one]; exact this
  obtain ⟨h1, -, h3⟩ := near_int (j := 0) hr (by decide) (by decide) (by
    rw [Nat.one_mul, Nat.pow_zero, Nat.mul_one, <- hK]; exact Nat.mul_le_mul_right _ hnq)
  have h4 := h3 n (-g).toNat (by omega) hn53 (by rw [Nat.mul_assoc, Nat.mul_comm (2 ^ (g + 1074).toNat), hK, Nat.one_mul]); rw [hfm]; refine ⟨h1, ?_⟩; rw [show ((1 : Nat) : Int) = 1 from rfl, Int.mul_one] at h4; rw [h4]; congr 1; rw [Float64.val_natAbs hx]; have e2 : m * 2 ^ (e + 1074).toNat = m * 2 ^ (e - g).toNat * 2 ^ (g + 1074).toNat := by
    rw [Nat.mul_assoc, <- Nat.pow_add]; congr 2; omega
  rw [e2, <- hK, Nat.mul_mod_mul_right, hn]
end
end Mine
end
section
open PySem PySem.W PyProof.Rows
set_option exponentiation.threshold 3000
namespace Mine
open PySem.Float64 (decode Right sgn dist infMag pack)
section
variable {x y : UInt64}
theorem R_nonneg_iff {x : UInt64} : 0 <= R x <-> 0 <= Float64.val x := by
  have kp := Kq_pos; constructor
  · intro h; have h1 := mulK kp h; rw [<- R_val, Rat.zero_mul] at h1
    exact_mod_cast h1
  · intro h; have h1 : ((0 : Int) : Rat) <= ((Float64.val x : Int) : Rat) := by exact_mod_cast h
    rw [R_val] at h1; refine canR kp ?_; rw [Rat.zero_mul]
    exact_mod_cast h1
theorem right_nonneg {r : UInt64} {W D : Nat} (h : Right r false W D) (hf : FinF r) : 0 <= Float64.val r := by
  obtain ⟨t, rfl, ht, -, -⟩ := h; have hlt : t < infMag := by
    rcases Nat.lt_or_ge t infMag with h | h
    · exact h
    · exfalso; have : t = infMag := by omega
      subst this; obtain ⟨a, m, e, hd'⟩ := hf; rw [decode_inf'] at hd'; cases hd'
  rw [Float64.val_pack false hlt]; unfold sgn; simp
theorem add_nonneg (hx : FinF x) (hy : FinF y) (hf : FinF (Float64.add x y)) (h : 0 <= R x + R y) : 0 <= R (Float64.add x y) := by
  have kp := Kq_pos; obtain ⟨a, m, e, hx'⟩ := hx; obtain ⟨b, k, f, hy'⟩ := hy; obtain ⟨h0, h1⟩ := Float64.add_right hx' hy'; have hw : 0 <= Float64.val x + Float64.val y := by
    have h2 := mulK kp h; rw [Rat.zero_mul, Rat.add_mul, <- R_val, <- R_val] at h2
    exact_mod_cast h2
  rw [R_nonneg_iff]
  by_cases hz : Float64.val x + Float64.val y = 0
  · rw [h0 hz, val_zero]; exact Int.le_refl _
  · have := h1 hz; rw [show decide (Float64.val x + Float64.val y < 0) = false by simp; omega] at this; exact right_nonneg this hf
theorem decode_zeroF : decode (Float64.copysign (Float64.zero false) Float64.one) = .fin false 0 (-1074) := by kernel_rfl
theorem mod_one (hx : FinF x) : FinF (Float64.divmod x Float64.one).2 /\ 0 <= R (Float64.divmod x Float64.one).2 /\
    (∃ n : Int, R x - n - 1 / 2 ^ 54 <= R (Float64.divmod x Float64.one).2 /\ R (Float64.divmod x Float64.one).2 <= R x - n + 1 / 2 ^ 54 /\ 0 <= R x - n /\ R x - n < 1 /\ (0 <= R x -> R (Float64.divmod x Float64.one).2 = R x - n)) := by
  obtain ⟨a, m, e, hx⟩ := hx; have kp := Kq_pos; obtain ⟨hf, hv⟩ := fmod_one hx; have hsx := sgn_abs hx; have hdm := Nat.div_add_mod (Float64.val x).natAbs K; have hlt := Nat.mod_lt (Float64.val x).natAbs K_pos; generalize hq : (Float64.val x).natAbs / K = q at *; generalize hr : (Float64.val x).natAbs % K = r at *; have hdef : (Float64.divmod x Float64.one).2 = (if Float64.isZero (Float64.fmod x Float64.one) then Float64.copysign (Float64.zero false) Float64.one
      else if Float64.lt Float64.one (Float64.zero false) != Float64.lt (Float64.fmod x Float64.one) (Float64.zero false) then Float64.add (Float64.fmod x Float64.one) Float64.one else Float64.fmod x Float64.one) := by
    unfold Float64.divmod; simp only; split
    · rfl
    · split <;> rfl
  have hRm : R (Float64.fmod x Float64.one) * (K : Rat) = ((sgn a r : Int) : Rat) := by rw [<- R_val, hv]
  have hRx : R x * (K : Rat) = ((sgn a (K * q + r) : Int) : Rat) := by rw [<- R_val, hdm, hsx]
  have hrK : ((r : Nat) : Rat) < (K : Rat) := by exact_mod_cast hlt
  have hr0 : (0 : Rat) <= ((r : Nat) : Rat) := by exact_mod_cast Nat.zero_le r
  have hz0 := fin_zero false; have hRz : R (Float64.zero false) = 0 := by unfold R; rw [val_zero]; simp [Rat.div_def]
  rw [hdef]
  by_cases hr00 : r = 0
  · -- no remainder
    have hm0 : R (Float64.fmod x Float64.one) = 0 := by
      refine canE kp ?_; rw [hRm, hr00]; cases a <;> simp [sgn]
    rw [isZero_R hf, hm0]; simp only [decide_true, if_true]; have hc : R (Float64.copysign (Float64.zero false) Float64.one) = 0 := by
      unfold R; rw [Float64.val_eq decode_zeroF]; simp [sgn, Rat.div_def]
    rw [hc]; refine ⟨⟨_, _, _, decode_zeroF⟩, Rat.le_refl, sgn a q, ?_⟩; have hx2 : R x = ((sgn a q : Int) : Rat) := by
      refine canE kp ?_; rw [hRx, hr00, Nat.add_zero, Nat.mul_comm, sgn_scale]; push_cast; rfl
    rw [hx2]; grind
  · have hm0 : R (Float64.fmod x Float64.one) ≠ 0 := by
      intro h; rw [h] at hRm; have : ((sgn a r : Int) : Rat) = ((0 : Int) : Rat) := by rw [<- hRm]; push_cast; grind
      have h2 : sgn a r = 0 := by exact_mod_cast this
      unfold sgn at h2; cases a
      · simp at h2; omega
      · simp at h2; omega
    rw [isZero_R hf]; simp only [hm0, decide_false, Bool.false_eq_true, if_false]; have l1 : Float64.lt Float64.one (Float64.zero false) = false := by decide +kernel
    rw [l1]; have l2 : Float64.lt (Float64.fmod x Float64.one) (Float64.zero false) = a := by
      unfold Float64.lt; rw [cmp_of hf hz0, hRz]; cases a
      · have : ¬ R (Float64.fmod x Float64.one) < 0 := by
          intro h; have h2 := Rat.mul_lt_mul_of_pos_right h kp; rw [hRm] at h2; simp only [sgn] at h2; push_cast at h2; grind
        rw [if_neg this]; split <;> rfl
      · have : R (Float64.fmod x Float64.one) < 0 := by
          have h1 : R (Float64.fmod x Float64.one) <= 0 := by
            refine canR kp ?_; rw [hRm]; simp only [sgn, if_true]; push_cast; grind
          grind
        rw [if_pos this]; rfl
    rw [l2]; cases a
    · simp only [bne_self_eq_false, Bool.false_eq_true, if_false]; simp only [sgn, Bool.false_eq_true, if_false] at hRm hRx; push_cast at hRm hRx; have hx2 : R x = R (Float64.fmod x Float64.one) + (q : Rat) := by
        refine canE kp ?_; rw [hRx, Rat.add_mul, hRm]; grind
      have hm1 : 0 <= R (Float64.fmod x Float64.one) := canR kp (by rw [hRm]; grind); have hm2 : R (Float64.fmod x Float64.one) < 1 := by
        refine Rat.lt_of_mul_lt_mul_right (c := (K : Rat)) ?_ (Rat.le_of_lt kp); rw [hRm]; grind
      refine ⟨hf, hm1, (q : Int), ?_⟩; push_cast; rw [hx2]; grind
    · simp only [show (false != true) = true from rfl, if_true]; simp only [sgn, if_true] at hRm hRx; push_cast at hRm hRx; have hx2 : R x = R (Float64.fmod x Float64.one) - (q : Rat) := by
        refine canE kp ?_; rw [hRx, show (R (Float64.fmod x Float64.one) - (q : Rat)) * (K : Rat) = R (Float64.fmod x Float64.one) * (K : Rat) - (q : Rat) * (K : Rat) by grind, hRm]; grind
      have hm1 : R (Float64.fmod x Float64.one) <= 0 := canR kp (by rw [hRm]; grind); have hm2 : -1 < R (Float64.fmod x Float64.one) := by
        refine Rat.lt_of_mul_lt_mul_right (c := (K : Rat)) ?_ (Rat.le_of_lt kp); rw [hRm]; grind
      obtain ⟨f1, f2, f3, -⟩ := add_R (M := 1) hf fin_one ⟨0, by decide, rfl⟩ (by rw [R_one]; push_cast; grind) (by rw [R_one]; push_cast; grind); rw [R_one] at f2 f3; push_cast at f2 f3; refine ⟨f1, add_nonneg hf fin_one f1 (by rw [R_one]; grind), -(q : Int) - 1, ?_⟩; push_cast; rw [hx2]; have hq0 : (0 : Rat) <= (q : Rat) := by exact_mod_cast Nat.zero_le q
      refine ⟨by grind, by grind, by grind, by grind, fun h => ?_⟩; exfalso; grind
end
end Mine
end
section
open PySem PySem.W PyProof.Rows
namespace Mine.Co
def g_ONE_THIRD : PV := (.flt 0x3fd5555555555555)
def g_ONE_SIXTH : PV := (.flt 0x3fc5555555555555)
def g_TWO_THIRD : PV := (.flt 0x3fe5555555555555)
def g_NT_OFFSET : PV := (.int 256)
def g_ENDMARKER : PV := (.int 0)
def g_EXACT_TOKEN_TYPES : PV := .dcts [(("!" : Str), .i 54), (("!=" : Str), .i 28), (("%" : Str), .i 24), (("%=" : Str), .i 40), (("&" : Str), .i 19), (("&=" : Str), .i 41), (("(" : Str), .i 7), ((")" : Str), .i 8), (("*" : Str), .i 16), (("**" : Str), .i 35), (("**=" : Str), .i 46), (("*=" : Str), .i 38), (("+" : Str), .i 14), (("+=" : Str), .i 36), (("," : Str), .i 12), (("-" : Str), .i 15), (("-=" : Str), .i 37), (("->" : Str), .i 51), (("." : Str), .i 23), (("..." : Str), .i 52), (("/" : Str), .i 17), (("//" : Str), .i 47), (("//=" : Str), .i 48), (("/=" : Str), .i 39), ((":" : Str), .i 11), ((":=" : Str), .i 53), ((";" : Str), .i 13), (("<" : Str), .i 20), (("<<" : Str), .i 33), (("<<=" : Str), .i 44), (("<=" : Str), .i 29), (("=" : Str), .i 22), (("==" : Str), .i 27), ((">" : Str), .i 21), ((">=" : Str), .i 30), ((">>" : Str), .i 34), ((">>=" : Str), .i 45), (("@" : Str), .i 49), (("@=" : Str), .i 50), (("[" : Str), .i 9), (("]" : Str), .i 10), (("^" : Str), .i 32), (("^=" : Str), .i 43), (("{" : Str), .i 25), (("|" : Str), .i 18), (("|=" : Str), .i 42), (("}" : Str), .i 26), (("~" : Str), .i 31)]
def f_ISTERMINAL : FSpec :=
  { pars := [("x" : Str)], n := 1, vars := [(("x" : Str), 0)], own := [], tk := [], code := (.cons (.ret (.cmp .Lt (.var 0) (.gcst g_NT_OFFSET))) .nil) }
def f_ISNONTERMINAL : FSpec :=
  { pars := [("x" : Str)], n := 1, vars := [(("x" : Str), 0)], own := [], tk := [], code := (.cons (.ret (.cmp .GtE (.var 0) (.gcst g_NT_OFFSET))) .nil) }
def f_ISEOF : FSpec :=
  { pars := [("x" : Str)], n := 1, vars := [(("x" : Str), 0)], own := [], tk := [], code := (.cons (.ret (.cmp .Eq (.var 0) (.gcst g_ENDMARKER))) .nil) }
def f_rgb_to_hls : FSpec :=
  { pars := [("r" : Str), ("g" : Str), ("b" : Str)], n := 13, vars := [(("r" : Str), 0), (("g" : Str), 1), (("b" : Str), 2), (("maxc" : Str), 3), (("minc" : Str), 4), (("sumc" : Str), 5), (("rangec" : Str), 6), (("l" : Str), 7), (("s" : Str), 8), (("rc" : Str), 9), (("gc" : Str), 10), (("bc" : Str), 11), (("h" : Str), 12)], own := [], tk := [], code := (.cons (.asg 3 (.bi .max (.cons (.var 0) (.cons (.var 1) (.cons (.var 2) .nil))))) (.cons (.asg 4 (.bi .min (.cons (.var 0) (.cons (.var 1) (.cons (.var 2) .nil))))) (.cons (.asg 5 (.bin .Add (.var 3) (.var 4))) (.cons (.asg 6 (.bin .Sub (.var 3) (.var 4))) (.cons (.asg 7 (.bin .Div (.var 5) (.cst (.flt 0x4000000000000000)))) (.cons (.ite (.cmp .Eq (.var 4) (.var 3)) (.cons (.ret (.tup (.cons (.cst (.flt 0x0000000000000000)) (.cons (.var 7) (.cons (.cst (.flt 0x0000000000000000)) .nil))))) .nil) .nil) (.cons (.ite (.cmp .LtE (.var 7) (.cst (.flt 0x3fe0000000000000))) (.cons (.asg 8 (.bin .Div (.var 6) (.var 5))) .nil) (.cons (.asg 8 (.bin .Div (.var 6) (.bin .Sub (.bin .Sub (.cst (.flt 0x4000000000000000)) (.var 3)) (.var 4)))) .nil)) (.cons (.asg 9 (.bin .Div (.bin .Sub (.var 3) (.var 0)) (.var 6))) (.cons (.asg 10 (.bin .Div (.bin .Sub (.var 3) (.var 1)) (.var 6))) (.cons (.asg 11 (.bin .Div (.bin .Sub (.var 3) (.var 2)) (.var 6))) (.cons (.ite (.cmp .Eq (.var 0) (.var 3)) (.cons (.asg 12 (.bin .Sub (.var 11) (.var 10))) .nil) (.cons (.ite (.cmp .Eq (.var 1) (.var 3)) (.cons (.asg 12 (.bin .Sub (.bin .Add (.cst (.flt 0x4000000000000000)) (.var 9)) (.var 11))) .nil) (.cons (.asg 12 (.bin .Sub (.bin .Add (.cst (.flt 0x4010000000000000)) (.var 10)) (.var 9))) .nil)) .nil)) (.cons (.asg 12 (.bin .Mod (.bin .Div (.var 12) (.cst (.flt 0x4018000000000000))) (.cst (.flt 0x3ff0000000000000)))) (.cons (.ret (.tup (.cons (.var 12) (.cons (.var 7) (.cons (.var 8) .nil))))) .nil))))))))))))) }
def f_hls_to_rgb (k : Nat) : FSpec :=
  { pars := [("h" : Str), ("l" : Str), ("s" : Str)], n := 5, vars := [(("h" : Str), 0), (("l" : Str), 1), (("s" : Str), 2), (("m2" : Str), 3), (("m1" : Str), 4)], own := [], tk := [], code := (.cons (.ite (.cmp .Eq (.var 2) (.cst (.flt 0x0000000000000000))) (.cons (.ret (.tup (.cons (.var 1) (.cons (.var 1) (.cons (.var 1) .nil))))) .nil) .nil) (.cons (.ite (.cmp .LtE (.var 1) (.cst (.flt 0x3fe0000000000000))) (.cons (.asg 3 (.bin .Mult (.var 1) (.bin .Add (.cst (.flt 0x3ff0000000000000)) (.var 2)))) .nil) (.cons (.asg 3 (.bin .Sub (.bin .Add (.var 1) (.var 2)) (.bin .Mult (.var 1) (.var 2)))) .nil)) (.cons (.asg 4 (.bin .Sub (.bin .Mult (.cst (.flt 0x4000000000000000)) (.var 1)) (.var 3))) (.cons (.ret (.tup (.cons (.call k (.cons (.var 4) (.cons (.var 3) (.cons (.bin .Add (.var 0) (.gcst g_ONE_THIRD)) .nil)))) (.cons (.call k (.cons (.var 4) (.cons (.var 3) (.cons (.var 0) .nil)))) (.cons (.call k (.cons (.var 4) (.cons (.var 3) (.cons (.bin .Sub (.var 0) (.gcst g_ONE_THIRD)) .nil)))) .nil))))) .nil)))) }
def f_v : FSpec :=
  { pars := [("m1" : Str), ("m2" : Str), ("hue" : Str)], n := 3, vars := [(("m1" : Str), 0), (("m2" : Str), 1), (("hue" : Str), 2)], own := [], tk := [], code := (.cons (.asg 2 (.bin .Mod (.var 2) (.cst (.flt 0x3ff0000000000000)))) (.cons (.ite (.cmp .Lt (.var 2) (.gcst g_ONE_SIXTH)) (.cons (.ret (.bin .Add (.var 0) (.bin .Mult (.bin .Mult (.bin .Sub (.var 1) (.var 0)) (.var 2)) (.cst (.flt 0x4018000000000000))))) .nil) .nil) (.cons (.ite (.cmp .Lt (.var 2) (.cst (.flt 0x3fe0000000000000))) (.cons (.ret (.var 1)) .nil) .nil) (.cons (.ite (.cmp .Lt (.var 2) (.gcst g_TWO_THIRD)) (.cons (.ret (.bin .Add (.var 0) (.bin .Mult (.bin .Mult (.bin .Sub (.var 1) (.var 0)) (.bin .Sub (.gcst g_TWO_THIRD) (.var 2))) (.cst (.flt 0x4018000000000000))))) .nil) .nil) (.cons (.ret (.var 0)) .nil))))) }
def f_rgb_to_hsv : FSpec :=
  { pars := [("r" : Str), ("g" : Str), ("b" : Str)], n := 12, vars := [(("r" : Str), 0), (("g" : Str), 1), (("b" : Str), 2), (("maxc" : Str), 3), (("minc" : Str), 4), (("rangec" : Str), 5), (("v" : Str), 6), (("s" : Str), 7), (("rc" : Str), 8), (("gc" : Str), 9), (("bc" : Str), 10), (("h" : Str), 11)], own := [], tk := [], code := (.cons (.asg 3 (.bi .max (.cons (.var 0) (.cons (.var 1) (.cons (.var 2) .nil))))) (.cons (.asg 4 (.bi .min (.cons (.var 0) (.cons (.var 1) (.cons (.var 2) .nil))))) (.cons (.asg 5 (.bin .Sub (.var 3) (.var 4))) (.cons (.asg 6 (.var 3)) (.cons (.ite (.cmp .Eq (.var 4) (.var 3)) (.cons (.ret (.tup (.cons (.cst (.flt 0x0000000000000000)) (.cons (.cst (.flt 0x0000000000000000)) (.cons (.var 6) .nil))))) .nil) .nil) (.cons (.asg 7 (.bin .Div (.var 5) (.var 3))) (.cons (.asg 8 (.bin .Div (.bin .Sub (.var 3) (.var 0)) (.var 5))) (.cons (.asg 9 (.bin .Div (.bin .Sub (.var 3) (.var 1)) (.var 5))) (.cons (.asg 10 (.bin .Div (.bin .Sub (.var 3) (.var 2)) (.var 5))) (.cons (.ite (.cmp .Eq (.var 0) (.var 3)) (.cons (.asg 11 (.bin .Sub (.var 10) (.var 9))) .nil) (.cons (.ite (.cmp .Eq (.var 1) (.var 3)) (.cons (.asg 11 (.bin .Sub (.bin .Add (.cst (.flt 0x4000000000000000)) (.var 8)) (.var 10))) .nil) (.cons (.asg 11 (.bin .Sub (.bin .Add (.cst (.flt 0x4010000000000000)) (.var 9)) (.var 8))) .nil)) .nil)) (.cons (.asg 11 (.bin .Mod (.bin .Div (.var 11) (.cst (.flt 0x4018000000000000))) (.cst (.flt 0x3ff0000000000000)))) (.cons (.ret (.tup (.cons (.var 11) (.cons (.var 7) (.cons (.var 6) .nil))))) .nil)))))))))))) }
def f_hsv_to_rgb : FSpec :=
  { pars := [("h" : Str), ("s" : Str), ("v" : Str)], n := 8, vars := [(("h" : Str), 0), (("s" : Str), 1), (("v" : Str), 2), (("i" : Str), 3), (("f" : Str), 4), (("p" : Str), 5), (("q" : Str), 6), (("t" : Str), 7)], own := [], tk := [], code := (.cons (.ite (.cmp .Eq (.var 1) (.cst (.flt 0x0000000000000000))) (.cons (.ret (.tup (.cons (.var 2) (.cons (.var 2) (.cons (.var 2) .nil))))) .nil) .nil) (.cons (.asg 3 (.bi .int (.cons (.bin .Mult (.var 0) (.cst (.flt 0x4018000000000000))) .nil))) (.cons (.asg 4 (.bin .Sub (.bin .Mult (.var 0) (.cst (.flt 0x4018000000000000))) (.var 3))) (.cons (.asg 5 (.bin .Mult (.var 2) (.bin .Sub (.cst (.flt 0x3ff0000000000000)) (.var 1)))) (.cons (.asg 6 (.bin .Mult (.var 2) (.bin .Sub (.cst (.flt 0x3ff0000000000000)) (.bin .Mult (.var 1) (.var 4))))) (.cons (.asg 7 (.bin .Mult (.var 2) (.bin .Sub (.cst (.flt 0x3ff0000000000000)) (.bin .Mult (.var 1) (.bin .Sub (.cst (.flt 0x3ff0000000000000)) (.var 4)))))) (.cons (.asg 3 (.bin .Mod (.var 3) (.cst (.int 6)))) (.cons (.ite (.cmp .Eq (.var 3) (.cst (.int 0))) (.cons (.ret (.tup (.cons (.var 2) (.cons (.var 7) (.cons (.var 5) .nil))))) .nil) .nil) (.cons (.ite (.cmp .Eq (.var 3) (.cst (.int 1))) (.cons (.ret (.tup (.cons (.var 6) (.cons (.var 2) (.cons (.var 5) .nil))))) .nil) .nil) (.cons (.ite (.cmp .Eq (.var 3) (.cst (.int 2))) (.cons (.ret (.tup (.cons (.var 5) (.cons (.var 2) (.cons (.var 7) .nil))))) .nil) .nil) (.cons (.ite (.cmp .Eq (.var 3) (.cst (.int 3))) (.cons (.ret (.tup (.cons (.var 5) (.cons (.var 6) (.cons (.var 2) .nil))))) .nil) .nil) (.cons (.ite (.cmp .Eq (.var 3) (.cst (.int 4))) (.cons (.ret (.tup (.cons (.var 7) (.cons (.var 5) (.cons (.var 2) .nil))))) .nil) .nil) (.cons (.ite (.cmp .Eq (.var 3) (.cst (.int 5))) (.cons (.ret (.tup (.cons (.var 2) (.cons (.var 5) (.cons (.var 6) .nil))))) .nil) .nil) .nil))))))))))))) }
def f_strip_quoted_realnames : FSpec :=
  { pars := [("addr" : Str)], n := 6, vars := [(("addr" : Str), 0), (("start" : Str), 1), (("open_pos" : Str), 2), (("result" : Str), 3), (("pos" : Str), 4), (("ch" : Str), 5)], own := [3], tk := [], code := (.cons (.ite (.cmp .NotIn (.cst (.str ("\"" : Str))) (.var 0)) (.cons (.ret (.var 0)) .nil) .nil) (.cons (.asg 1 (.cst (.int 0))) (.cons (.asg 2 (.cst .none)) (.cons (.asgO 3 (.list .nil)) (.cons (.esc [4, 5] (.var 0) (.cons (.ite (.cmp .Eq (.var 5) (.cst (.str ("\"" : Str)))) (.cons (.ite (.cmp .Is (.var 2) (.cst .none)) (.cons (.asg 2 (.var 4)) .nil) (.cons (.ite (.cmp .NotEq (.var 1) (.var 2)) (.cons (.app 3 (.slc (.var 0) (.var 1) (.var 2) (.cst .none))) .nil) .nil) (.cons (.asg 1 (.bin .Add (.var 4) (.cst (.int 1)))) (.cons (.asg 2 (.cst .none)) .nil)))) .nil) .nil) .nil)) (.cons (.ite (.cmp .Lt (.var 1) (.bi .len (.cons (.var 0) .nil))) (.cons (.app 3 (.slc (.var 0) (.var 1) (.cst .none) (.cst .none))) .nil) .nil) (.cons (.ret (.me .join (.cst (.str ("" : Str))) (.cons (.var 3) .nil))) .nil))))))) }
def f_check_parenthesis (k : Nat) : FSpec :=
  { pars := [("addr" : Str)], n := 4, vars := [(("addr" : Str), 0), (("opens" : Str), 1), (("pos" : Str), 2), (("ch" : Str), 3)], own := [], tk := [], code := (.cons (.asg 0 (.call k (.cons (.var 0) .nil))) (.cons (.asg 1 (.cst (.int 0))) (.cons (.esc [2, 3] (.var 0) (.cons (.ite (.cmp .Eq (.var 3) (.cst (.str ("(" : Str)))) (.cons (.aug 1 .Add (.cst (.int 1))) .nil) (.cons (.ite (.cmp .Eq (.var 3) (.cst (.str (")" : Str)))) (.cons (.aug 1 .Sub (.cst (.int 1))) (.cons (.ite (.cmp .Lt (.var 1) (.cst (.int 0))) (.cons (.ret (.cst (.bool false))) .nil) .nil) .nil)) .nil) .nil)) .nil)) (.cons (.ret (.cmp .Eq (.var 1) (.cst (.int 0)))) .nil)))) }
def f_law_read : FSpec :=
  { pars := [("text" : Str)], n := 3, vars := [(("text" : Str), 0), (("numbers" : Str), 1), (("size" : Str), 2)], own := [1], tk := [], code := (.cons (.asgO 1 (.list .nil)) (.cons (.while 1000 (.cmp .NotEq (.var 0) (.cst (.str ("" : Str)))) (.cons (.asg 2 (.cst (.int 3))) (.cons (.while 1000 (.cmp .NotIn (.slc (.var 0) (.cst .none) (.var 2) (.cst .none)) (.gcst g_EXACT_TOKEN_TYPES)) (.cons (.aug 2 .Sub (.cst (.int 1))) .nil)) (.cons (.app 1 (.sub (.gcst g_EXACT_TOKEN_TYPES) (.slc (.var 0) (.cst .none) (.var 2) (.cst .none)))) (.cons (.asg 0 (.slc (.var 0) (.var 2) (.cst .none) (.cst .none))) .nil))))) (.cons (.ret (.var 1)) .nil))) }
end Mine.Co
end
section
open PySem PySem.W PyProof.Rows
namespace Mine.L2
def g_ONE_THIRD : PV := Co.g_ONE_THIRD
def g_ONE_SIXTH : PV := Co.g_ONE_SIXTH
def g_TWO_THIRD : PV := Co.g_TWO_THIRD
def g_NT_OFFSET : PV := Co.g_NT_OFFSET
def g_ENDMARKER : PV := Co.g_ENDMARKER
def g_EXACT_TOKEN_TYPES : PV := Co.g_EXACT_TOKEN_TYPES
def f_ISTERMINAL : FSpec := Co.f_ISTERMINAL
def f_ISNONTERMINAL : FSpec := Co.f_ISNONTERMINAL
def f_ISEOF : FSpec := Co.f_ISEOF
def f_rgb_to_hls : FSpec := Co.f_rgb_to_hls
def f_hls_to_rgb : FSpec := Co.f_hls_to_rgb 5
def f_v : FSpec := Co.f_v
def f_rgb_to_hsv : FSpec := Co.f_rgb_to_hsv
def f_hsv_to_rgb : FSpec := Co.f_hsv_to_rgb
def f_strip_quoted_realnames : FSpec := Co.f_strip_quoted_realnames
def f_check_parenthesis : FSpec := Co.f_check_parenthesis 8
def f_law_read : FSpec := Co.f_law_read
def f_law_spelled : FSpec :=
  { pars := [("marks" : Str)], n := 4, vars := [(("marks" : Str), 0), (("numbers" : Str), 1), (("mark" : Str), 2), (("number" : Str), 3)], own := [1], tk := [], code := (.cons (.asgO 1 (.list .nil)) (.cons (.for [2] (.val (.var 0)) (.cons (.asg 3 (.ite (.cmp .Eq (.var 2) (.cst (.str ("<" : Str)))) (.cst (.int 20)) (.cst (.int 21)))) (.cons (.ite (.cmp .Eq (.slc (.var 1) (.neg (.cst (.int 1))) (.cst .none) (.cst .none)) (.list (.cons (.var 3) .nil))) (.cons (.asgO 1 (.bin .Add (.slc (.var 1) (.cst .none) (.neg (.cst (.int 1))) (.cst .none)) (.list (.cons (.bin .Add (.var 3) (.cst (.int 13))) .nil)))) .nil) (.cons (.app 1 (.var 3)) .nil)) .nil))) (.cons (.ret (.var 1)) .nil))) }
def f_law_other : FSpec :=
  { pars := [("mark" : Str)], n := 1, vars := [(("mark" : Str), 0)], own := [], tk := [], code := (.cons (.ret (.ite (.cmp .Eq (.var 0) (.cst (.str ("<" : Str)))) (.cst (.str (">" : Str))) (.cst (.str ("<" : Str))))) .nil) }
def f_law_like : FSpec :=
  { pars := [("marks" : Str)], n := 2, vars := [(("marks" : Str), 0), (("numbers" : Str), 1)], own := [], tk := [], code := (.cons (.asg 1 (.call 10 (.cons (.me .join (.cst (.str ("" : Str))) (.cons (.var 0) .nil)) .nil))) (.cons (.ret (.or (.cmp .In (.cst (.int 33)) (.var 1)) (.cmp .In (.cst (.int 34)) (.var 1)))) .nil)) }
def f_law_lamps : FSpec :=
  { pars := [("place" : Str), ("share" : Str)], n := 5, vars := [(("place" : Str), 0), (("share" : Str), 1), (("lamps" : Str), 2), (("corner" : Str), 3), (("far" : Str), 4)], own := [2], tk := [], code := (.cons (.asgO 2 (.list .nil)) (.cons (.for [3] (.val (.tup (.cons (.cst (.int 0)) (.cons (.cst (.int 512)) (.cons (.cst (.int 1024)) .nil))))) (.cons (.asg 4 (.bin .Mod (.bin .Sub (.bin .Mult (.cst (.int 3)) (.var 0)) (.var 3)) (.cst (.int 1536)))) (.cons (.app 2 (.bin .Mult (.var 1) (.bi .max (.cons (.cst (.int 0)) (.cons (.bi .min (.cons (.cst (.int 256)) (.cons (.bin .Sub (.cst (.int 512)) (.bi .min (.cons (.var 4) (.cons (.bin .Sub (.cst (.int 1536)) (.var 4)) .nil)))) .nil))) .nil))))) .nil))) (.cons (.ret (.var 2)) .nil))) }
def f_law_mark : FSpec :=
  { pars := [("parts" : Str), ("white" : Str)], n := 10, vars := [(("parts" : Str), 0), (("white" : Str), 1), (("red" : Str), 2), (("green" : Str), 3), (("blue" : Str), 4), (("hue" : Str), 5), (("share" : Str), 6), (("level" : Str), 7), (("place" : Str), 8)], own := [], tk := [], code := (.cons (.asgT [2, 3, 4] (.comp (.bin .Div (.bin .Add (.var 1) (.var 9)) (.bin .Pow (.cst (.int 2)) (.cst (.int 17)))) 9 (.val (.var 0)) false (.cst .none))) (.cons (.asgT [5, 6, 7] (.call 6 (.cons (.var 2) (.cons (.var 3) (.cons (.var 4) .nil))))) (.cons (.asg 8 (.bi .int (.cons (.bin .Mult (.cst (.int 512)) (.var 5)) .nil))) (.cons (.ite (.cmp .Eq (.call 0 (.cons (.var 8) .nil)) (.call 1 (.cons (.var 8) .nil))) (.cons (.ret (.cst (.str ("" : Str)))) .nil) .nil) (.cons (.ret (.ite (.call 0 (.cons (.var 8) .nil)) (.cst (.str ("<" : Str))) (.cst (.str (">" : Str))))) .nil))))) }
def f_law_melted : FSpec :=
  { pars := [("one" : Str), ("two" : Str), ("white" : Str), ("way" : Str)], n := 15, vars := [(("one" : Str), 0), (("two" : Str), 1), (("white" : Str), 2), (("way" : Str), 3), (("mixed" : Str), 4), (("red" : Str), 5), (("green" : Str), 6), (("blue" : Str), 7), (("hue" : Str), 8), (("share" : Str), 9), (("level" : Str), 10), (("shown" : Str), 11)], own := [], tk := [], code := (.cons (.asg 4 (.comp (.bin .Add (.sub (.var 0) (.var 14)) (.sub (.var 1) (.var 14))) 14 (.rng1 (.cst (.int 3))) false (.cst .none))) (.cons (.asgT [5, 6, 7] (.comp (.bin .Div (.bin .Sub (.bin .Add (.var 2) (.var 13)) (.bi .min (.cons (.var 4) .nil))) (.bin .Pow (.cst (.int 2)) (.cst (.int 17)))) 13 (.val (.var 4)) false (.cst .none))) (.cons (.ite (.cmp .Eq (.var 3) (.cst (.int 0))) (.cons (.asgT [8, 9, 10] (.call 6 (.cons (.var 5) (.cons (.var 6) (.cons (.var 7) .nil))))) (.cons (.asg 11 (.call 7 (.cons (.bin .Add (.var 8) (.cst (.flt 0x3fe0000000000000))) (.cons (.var 9) (.cons (.var 10) .nil))))) .nil)) (.cons (.asgT [8, 10, 9] (.call 3 (.cons (.var 5) (.cons (.var 6) (.cons (.var 7) .nil))))) (.cons (.asg 11 (.call 4 (.cons (.bin .Sub (.var 8) (.cst (.flt 0x3fe0000000000000))) (.cons (.var 10) (.cons (.var 9) .nil))))) .nil))) (.cons (.ret (.comp (.bin .Sub (.bi .int (.cons (.bin .Add (.bin .Mult (.bin .Pow (.cst (.int 2)) (.cst (.int 17))) (.var 12)) (.cst (.flt 0x3fe0000000000000))) .nil)) (.var 2)) 12 (.val (.var 11)) false (.cst .none))) .nil)))) }
def f_law_due : FSpec :=
  { pars := [("lights" : Str), ("drawn" : Str)], n := 7, vars := [(("lights" : Str), 0), (("drawn" : Str), 1), (("total" : Str), 2)], own := [], tk := [], code := (.cons (.asg 2 (.comp (.bi .sum (.cons (.comp (.sub (.var 6) (.var 5)) 6 (.val (.var 0)) false (.cst .none)) .nil)) 5 (.rng1 (.cst (.int 3))) false (.cst .none))) (.cons (.asg 2 (.comp (.bin .Sub (.var 4) (.bi .min (.cons (.var 2) .nil))) 4 (.val (.var 2)) false (.cst .none))) (.cons (.ite (.cmp .Eq (.bin .Mod (.bin .Add (.me .count (.var 1) (.cons (.cst (.str ("<" : Str))) .nil)) (.bin .Mult (.cst (.int 2)) (.me .count (.var 1) (.cons (.cst (.str (">" : Str))) .nil)))) (.cst (.int 3))) (.cst (.int 1))) (.cons (.ret (.tup (.cons (.cst (.str ("<" : Str))) (.cons (.var 2) .nil)))) .nil) .nil) (.cons (.ret (.tup (.cons (.cst (.str (">" : Str))) (.cons (.comp (.bin .Sub (.bi .max (.cons (.var 2) .nil)) (.var 3)) 3 (.val (.var 2)) false (.cst .none)) .nil)))) .nil)))) }
def f_law_fewest : FSpec :=
  { pars := [("drawn" : Str)], n := 9, vars := [(("drawn" : Str), 0), (("can" : Str), 1), (("fewest" : Str), 2), (("last" : Str), 3), (("counts" : Str), 4), (("first" : Str), 5), (("ways" : Str), 6), (("cut" : Str), 7), (("mark" : Str), 8)], own := [2, 4, 1], tk := [], code := (.cons (.newD 1) (.cons (.asgO 2 (.list (.cons (.cst (.int 0)) .nil))) (.cons (.for [3] (.rng2 (.cst (.int 1)) (.bin .Add (.bi .len (.cons (.var 0) .nil)) (.cst (.int 1)))) (.cons (.asgO 4 (.list .nil)) (.cons (.for [5] (.rng3 (.bin .Sub (.var 3) (.cst (.int 1))) (.neg (.cst (.int 1)))) (.cons (.asg 6 (.ite (.cmp .Eq (.var 5) (.bin .Sub (.var 3) (.cst (.int 1)))) (.sub (.var 0) (.var 5)) (.cst (.str ("" : Str))))) (.cons (.for [7] (.rng2 (.bin .Add (.var 5) (.cst (.int 1))) (.var 3)) (.cons (.for [8] (.val (.sub (.var 1) (.bin .Add (.bin .Mult (.cst (.int 16)) (.var 7)) (.var 5)))) (.cons (.ite (.and (.cmp .In (.var 8) (.sub (.var 1) (.bin .Add (.bin .Mult (.cst (.int 16)) (.var 3)) (.var 7)))) (.cmp .NotIn (.call 12 (.cons (.var 8) .nil)) (.var 6))) (.cons (.aug 6 .Add (.call 12 (.cons (.var 8) .nil))) .nil) .nil) .nil)) .nil)) (.cons (.setI 1 (.bin .Add (.bin .Mult (.cst (.int 16)) (.var 3)) (.var 5)) (.var 6)) (.cons (.ite (.cmp .NotEq (.var 6) (.cst (.str ("" : Str)))) (.cons (.app 4 (.bin .Add (.sub (.var 2) (.var 5)) (.cst (.int 1)))) .nil) .nil) .nil))))) (.cons (.app 2 (.bi .min (.cons (.var 4) .nil))) .nil)))) (.cons (.ret (.sub (.var 2) (.neg (.cst (.int 1))))) .nil)))) }
def f_law_told_back : FSpec :=
  { pars := [("whole" : Str), ("marks" : Str)], n := 10, vars := [(("whole" : Str), 0), (("marks" : Str), 1), (("pile" : Str), 2), (("seen" : Str), 3), (("units" : Str), 4), (("told" : Str), 5), (("at" : Str), 6), (("sign" : Str), 7), (("number" : Str), 8)], own := [2, 5], tk := [], code := (.cons (.asgO 2 (.bin .Add (.list (.cons (.cst (.int 0)) .nil)) (.comp (.ite (.cmp .Eq (.var 9) (.cst (.str ("<" : Str)))) (.cst (.int 256)) (.cst (.int 257))) 9 (.val (.slc (.var 1) (.cst .none) (.cst .none) (.neg (.cst (.int 1))))) false (.cst .none)))) (.cons (.asg 3 (.call 8 (.cons (.bin .Add (.var 0) (.cst (.str ("\\" : Str)))) .nil))) (.cons (.asg 4 (.cst (.str ("" : Str)))) (.cons (.asgO 5 (.list .nil)) (.cons (.esc [6, 7] (.var 3) (.cons (.aug 4 .Add (.var 7)) (.cons (.ite (.cmp .NotEq (.var 6) (.bin .Sub (.bi .len (.cons (.var 4) .nil)) (.cst (.int 1)))) (.cons (.ret (.list .nil)) .nil) .nil) (.cons (.ite (.and (.cmp .Eq (.bi .len (.cons (.var 7) .nil)) (.cst (.int 1))) (.cmp .NotIn (.var 7) (.cst (.str (")\\" : Str))))) (.cons (.pop 8 2) (.cons (.ite (.not (.call 1 (.cons (.var 8) .nil))) (.cons (.ret (.list .nil)) .nil) .nil) (.cons (.ite (.cmp .Eq (.var 7) (.cst (.str ("(" : Str)))) (.cons (.asgO 2 (.bin .Add (.var 2) (.list (.cons (.bin .Sub (.cst (.int 513)) (.var 8)) (.cons (.bin .Sub (.cst (.int 513)) (.var 8)) .nil))))) .nil) (.cons (.app 5 (.ite (.cmp .Eq (.var 8) (.cst (.int 256))) (.cst (.str ("<" : Str))) (.cst (.str (">" : Str))))) .nil)) .nil))) .nil) .nil)))) (.cons (.ret (.ite (.and (.cmp .Eq (.var 4) (.var 3)) (.call 2 (.cons (.sub (.var 2) (.neg (.cst (.int 1)))) .nil))) (.var 5) (.list .nil))) .nil)))))) }
def f_law : FSpec :=
  { pars := [("script" : Str)], n := 48, vars := [(("script" : Str), 0), (("count" : Str), 1), (("plain" : Str), 2), (("numbers" : Str), 3), (("drawn" : Str), 4), (("shares" : Str), 5), (("lights" : Str), 6), (("colours" : Str), 7), (("white" : Str), 8), (("kinds" : Str), 9), (("texts" : Str), 10), (("marks" : Str), 11), (("signs" : Str), 12), (("many" : Str), 13), (("points" : Str), 14), (("spot" : Str), 15), (("turned" : Str), 16), (("deep" : Str), 17), (("spans" : Str), 18), (("step" : Str), 19), (("like" : Str), 20), (("good" : Str), 21), (("choice" : Str), 22), (("p" : Str), 23), (("first" : Str), 24), (("last" : Str), 25), (("parts" : Str), 26), (("mark" : Str), 27), (("rest" : Str), 28), (("due" : Str), 29), (("whole" : Str), 30), (("front" : Str), 31), (("closed" : Str), 32), (("text" : Str), 33), (("shut" : Str), 34)], own := [], tk := [], code := (.cons (.asg 1 (.ite (.cmp .Lt (.bi .len (.cons (.var 0) .nil)) (.cst (.int 6))) (.cst (.int 5)) (.cst (.int 7)))) (.cons (.asg 2 (.tup (.cons (.cst (.int 19344)) (.cons (.cst (.int 8193)) (.cons (.cst (.int 7678)) (.cons (.cst (.int 2122)) (.cons (.cst (.int 1777)) (.cons (.cst (.int 641)) (.cons (.cst (.int 300)) .nil))))))))) (.cons (.asg 3 (.comp (.bin .Add (.sub (.var 2) (.var 46)) (.bi .sum (.cons (.comp (.bin .Mod (.var 47) (.bin .Pow (.cst (.int 10)) (.cst (.int 6)))) 47 (.val (.slc (.var 0) (.var 46) (.cst .none) (.var 1))) false (.cst .none)) .nil))) 46 (.rng1 (.var 1)) false (.cst .none))) (.cons (.asg 4 (.comp (.sub (.cst (.str ("<>" : Str))) (.bin .Mod (.var 45) (.cst (.int 2)))) 45 (.val (.var 3)) false (.cst .none))) (.cons (.asg 5 (.comp (.bin .Add (.cst (.int 1)) (.bin .Mod (.bin .FloorDiv (.var 44) (.cst (.int 512))) (.cst (.int 4)))) 44 (.val (.var 3)) false (.cst .none))) (.cons (.asg 6 (.comp (.call 14 (.cons (.bin .Mod (.bin .FloorDiv (.sub (.var 3) (.var 43)) (.cst (.int 2))) (.cst (.int 256))) (.cons (.sub (.var 5) (.var 43)) .nil))) 43 (.rng1 (.var 1)) false (.cst .none))) (.cons (.asg 7 (.comp (.call 14 (.cons (.bin .Add (.bin .Mod (.bin .FloorDiv (.sub (.var 3) (.var 42)) (.cst (.int 2))) (.cst (.int 256))) (.bin .Mult (.cst (.int 256)) (.bin .Mod (.sub (.var 3) (.var 42)) (.cst (.int 2))))) (.cons (.sub (.var 5) (.var 42)) .nil))) 42 (.rng1 (.var 1)) false (.cst .none))) (.cons (.asg 8 (.bin .Mult (.bin .Mod (.bin .FloorDiv (.sub (.var 3) (.cst (.int 0))) (.cst (.int 2048))) (.cst (.int 15))) (.bin .Pow (.cst (.int 2)) (.cst (.int 13))))) (.cons (.asg 9 (.list (.cons (.cst (.str ("" : Str))) (.cons (.cst (.str ("\\(" : Str))) (.cons (.cst (.str ("\\)" : Str))) (.cons (.cst (.str ("\"(\"" : Str))) (.cons (.cst (.str ("\")\"" : Str))) (.cons (.cst (.str ("\"\\\")\"" : Str))) (.cons (.cst (.str ("\\\\" : Str))) (.cons (.cst (.str ("\\\"" : Str))) .nil)))))))))) (.cons (.asg 10 (.comp (.bin .Add (.sub (.cst (.str ("abcdefg" : Str))) (.var 41)) (.ite (.cmp .In (.var 41) (.tup (.cons (.cst (.int 1)) (.cons (.cst (.int 3)) .nil)))) (.sub (.var 9) (.bin .Mod (.bin .FloorDiv (.sub (.var 3) (.var 41)) (.cst (.int 2048))) (.cst (.int 8)))) (.cst (.str ("" : Str))))) 41 (.rng1 (.var 1)) false (.cst .none))) (.cons (.asg 11 (.comp (.call 15 (.cons (.var 40) (.cons (.var 8) .nil))) 40 (.val (.var 7)) false (.cst .none))) (.cons (.asg 12 (.call 10 (.cons (.me .join (.cst (.str ("" : Str))) (.cons (.var 11) .nil)) .nil))) (.cons (.ite (.or (.cmp .NotEq (.var 11) (.var 4)) (.cmp .NotEq (.var 12) (.call 11 (.cons (.var 4) .nil)))) (.cons (.ret (.cst (.bool false))) .nil) .nil) (.cons (.asg 13 (.bin .Add (.me .count (.var 4) (.cons (.cst (.str ("<" : Str))) .nil)) (.bin .Mult (.cst (.int 2)) (.me .count (.var 4) (.cons (.cst (.str (">" : Str))) .nil))))) (.cons (.asg 14 (.call 10 (.cons (.me .join (.cst (.str ("" : Str))) (.cons (.comp (.ite (.cmp .Eq (.var 39) (.cst (.str ("<" : Str)))) (.cst (.str ("." : Str))) (.cst (.str (".." : Str)))) 39 (.val (.var 11)) false (.cst .none)) .nil)) .nil))) (.cons (.ite (.cmp .NotEq (.var 14) (.bin .Add (.bin .Mult (.list (.cons (.cst (.int 52)) .nil)) (.bin .FloorDiv (.var 13) (.cst (.int 3)))) (.bin .Mult (.list (.cons (.cst (.int 23)) .nil)) (.bin .Mod (.var 13) (.cst (.int 3)))))) (.cons (.ret (.cst (.bool false))) .nil) .nil) (.cons (.asg 15 (.bin .Mod (.bin .FloorDiv (.sub (.var 3) (.cst (.int 2))) (.cst (.int 2048))) (.var 1))) (.cons (.asg 16 (.call 14 (.cons (.bin .Add (.bin .Mod (.bin .FloorDiv (.sub (.var 3) (.var 15)) (.cst (.int 2))) (.cst (.int 256))) (.bin .Mult (.cst (.int 256)) (.bin .Sub (.cst (.int 1)) (.bin .Mod (.sub (.var 3) (.var 15)) (.cst (.int 2)))))) (.cons (.sub (.var 5) (.var 15)) .nil)))) (.cons (.ite (.cmp .NotEq (.comp (.call 16 (.cons (.sub (.var 7) (.var 15)) (.cons (.var 16) (.cons (.var 8) (.cons (.var 38) .nil))))) 38 (.val (.tup (.cons (.cst (.int 0)) (.cons (.cst (.int 1)) .nil)))) false (.cst .none)) (.list (.cons (.list (.cons (.cst (.int 0)) (.cons (.cst (.int 0)) (.cons (.cst (.int 0)) .nil)))) (.cons (.list (.cons (.cst (.int 0)) (.cons (.cst (.int 0)) (.cons (.cst (.int 0)) .nil)))) .nil)))) (.cons (.ret (.cst (.bool false))) .nil) .nil) (.cons (.asg 17 (.cst (.int 0))) (.cons (.asg 18 (.comp (.tup (.cons (.var 37) (.cons (.bin .Add (.var 37) (.cst (.int 1))) .nil))) 37 (.rng1 (.var 1)) false (.cst .none))) (.cons (.for [19] (.rng1 (.bin .Sub (.var 1) (.cst (.int 1)))) (.cons (.asg 20 (.comp (.var 36) 36 (.rng1 (.bin .Sub (.bi .len (.cons (.var 11) .nil)) (.cst (.int 1)))) true (.cmp .Eq (.sub (.var 11) (.var 36)) (.sub (.var 11) (.bin .Add (.var 36) (.cst (.int 1))))))) (.cons (.ite (.cmp .Eq (.var 20) (.list .nil)) (.cons .brk .nil) .nil) (.cons (.asg 21 (.comp (.var 35) 35 (.val (.var 20)) true (.call 13 (.cons (.bin .Add (.bin .Add (.slc (.var 11) (.cst .none) (.var 35) (.cst .none)) (.list (.cons (.call 12 (.cons (.sub (.var 11) (.var 35)) .nil)) .nil))) (.slc (.var 11) (.bin .Add (.var 35) (.cst (.int 2))) (.cst .none) (.cst .none))) .nil)))) (.cons (.asg 22 (.ite (.cmp .NotEq (.var 21) (.list .nil)) (.var 21) (.var 20))) (.cons (.asg 23 (.sub (.var 22) (.bin .Mod (.bin .FloorDiv (.sub (.var 3) (.var 19)) (.cst (.int 16384))) (.bi .len (.cons (.var 22) .nil))))) (.cons (.asgT [24, 25] (.tup (.cons (.sub (.sub (.var 18) (.var 23)) (.cst (.int 0))) (.cons (.sub (.sub (.var 18) (.bin .Add (.var 23) (.cst (.int 1)))) (.cst (.int 1))) .nil)))) (.cons (.asg 26 (.call 16 (.cons (.sub (.var 7) (.var 23)) (.cons (.sub (.var 7) (.bin .Add (.var 23) (.cst (.int 1)))) (.cons (.var 8) (.cons (.bin .Mod (.bin .Add (.var 23) (.var 19)) (.cst (.int 2))) .nil)))))) (.cons (.asg 27 (.call 15 (.cons (.var 26) (.cons (.var 8) .nil)))) (.cons (.ite (.cmp .NotEq (.tup (.cons (.var 27) (.cons (.var 26) .nil))) (.call 17 (.cons (.slc (.var 6) (.var 24) (.var 25) (.cst .none)) (.cons (.slc (.var 4) (.var 24) (.var 25) (.cst .none)) .nil)))) (.cons (.ret (.cst (.bool false))) .nil) .nil) (.cons (.asg 7 (.bin .Add (.bin .Add (.slc (.var 7) (.cst .none) (.var 23) (.cst .none)) (.list (.cons (.var 26) .nil))) (.slc (.var 7) (.bin .Add (.var 23) (.cst (.int 2))) (.cst .none) (.cst .none)))) (.cons (.asg 11 (.bin .Add (.bin .Add (.slc (.var 11) (.cst .none) (.var 23) (.cst .none)) (.list (.cons (.var 27) .nil))) (.slc (.var 11) (.bin .Add (.var 23) (.cst (.int 2))) (.cst .none) (.cst .none)))) (.cons (.asg 18 (.bin .Add (.bin .Add (.slc (.var 18) (.cst .none) (.var 23) (.cst .none)) (.list (.cons (.tup (.cons (.var 24) (.cons (.var 25) .nil))) .nil))) (.slc (.var 18) (.bin .Add (.var 23) (.cst (.int 2))) (.cst .none) (.cst .none)))) (.cons (.asg 10 (.bin .Add (.bin .Add (.slc (.var 10) (.cst .none) (.var 23) (.cst .none)) (.list (.cons (.bin .Add (.bin .Add (.bin .Add (.cst (.str ("(" : Str))) (.sub (.var 10) (.var 23))) (.sub (.var 10) (.bin .Add (.var 23) (.cst (.int 1))))) (.cst (.str (")" : Str)))) .nil))) (.slc (.var 10) (.bin .Add (.var 23) (.cst (.int 2))) (.cst .none) (.cst .none)))) (.cons (.aug 17 .Add (.ite (.cmp2 .LtE .Lt (.var 24) (.var 15) (.var 25)) (.cst (.int 1)) (.cst (.int 0)))) .nil))))))))))))))) (.cons (.asg 28 (.me .count (.var 14) (.cons (.cst (.int 23)) .nil))) (.cons (.asg 29 (.ite (.and (.cmp .NotIn (.cst (.int 33)) (.var 12)) (.cmp .NotIn (.cst (.int 34)) (.var 12))) (.var 1) (.ite (.call 2 (.cons (.var 28) .nil)) (.cst (.int 2)) (.cst (.int 1))))) (.cons (.ite (.or (.cmp .NotEq (.bi .len (.cons (.var 11) .nil)) (.var 29)) (.cmp .NotEq (.call 18 (.cons (.var 4) .nil)) (.var 29))) (.cons (.ret (.cst (.bool false))) .nil) .nil) (.cons (.ite (.and (.cmp .Eq (.var 29) (.cst (.int 1))) (.cmp .NotEq (.var 11) (.list (.cons (.ite (.call 2 (.cons (.bin .Sub (.var 28) (.cst (.int 2))) .nil)) (.cst (.str (">" : Str))) (.cst (.str ("<" : Str)))) .nil)))) (.cons (.ret (.cst (.bool false))) .nil) .nil) (.cons (.asg 30 (.me .join (.cst (.str ("" : Str))) (.cons (.var 10) .nil))) (.cons (.ite (.cmp .NotEq (.call 19 (.cons (.var 30) (.cons (.var 11) .nil))) (.var 4)) (.cons (.ret (.cst (.bool false))) .nil) .nil) (.cons (.asg 31 (.slc (.var 30) (.cst .none) (.bin .Add (.me .index (.var 30) (.cons (.sub (.cst (.str ("abcdefg" : Str))) (.var 15)) .nil)) (.cst (.int 1))) (.cst .none))) (.cons (.asg 32 (.bin .Add (.var 31) (.bin .Mult (.cst (.str (")" : Str))) (.var 17)))) (.cons (.for [33, 34] (.val (.tup (.cons (.tup (.cons (.var 31) (.cons (.cmp .Eq (.var 17) (.cst (.int 0))) .nil))) (.cons (.tup (.cons (.var 32) (.cons (.cst (.bool true)) .nil))) (.cons (.tup (.cons (.bin .Add (.var 32) (.cst (.str (")(" : Str)))) (.cons (.cst (.bool false)) .nil))) (.cons (.tup (.cons (.bin .Add (.var 32) (.cst (.str ("\")" : Str)))) (.cons (.cst (.bool false)) .nil))) .nil)))))) (.cons (.ite (.cmp .IsNot (.call 9 (.cons (.var 33) .nil)) (.var 34)) (.cons (.ret (.cst (.bool false))) .nil) .nil) .nil)) (.cons (.ret (.cst (.bool true))) .nil)))))))))))))))))))))))))))))))) }
def GL : List (Str × G) := [(("int" : Str), .bi .int), (("len" : Str), .bi .len), (("max" : Str), .bi .max), (("min" : Str), .bi .min), (("sum" : Str), .bi .sum), (("range" : Str), .rng), (("enumerate" : Str), .enum), (("_iter_escaped_chars" : Str), .gen), (("ONE_THIRD" : Str), .cst g_ONE_THIRD), (("ONE_SIXTH" : Str), .cst g_ONE_SIXTH), (("TWO_THIRD" : Str), .cst g_TWO_THIRD), (("NT_OFFSET" : Str), .cst g_NT_OFFSET), (("ENDMARKER" : Str), .cst g_ENDMARKER), (("EXACT_TOKEN_TYPES" : Str), .cst g_EXACT_TOKEN_TYPES), (("ISTERMINAL" : Str), .fn 0), (("ISNONTERMINAL" : Str), .fn 1), (("ISEOF" : Str), .fn 2), (("rgb_to_hls" : Str), .fn 3), (("hls_to_rgb" : Str), .fn 4), (("_v" : Str), .fn 5), (("rgb_to_hsv" : Str), .fn 6), (("hsv_to_rgb" : Str), .fn 7), (("_strip_quoted_realnames" : Str), .fn 8), (("_check_parenthesis" : Str), .fn 9), (("_law_read" : Str), .fn 10), (("_law_spelled" : Str), .fn 11), (("_law_other" : Str), .fn 12), (("_law_like" : Str), .fn 13), (("_law_lamps" : Str), .fn 14), (("_law_mark" : Str), .fn 15), (("_law_melted" : Str), .fn 16), (("_law_due" : Str), .fn 17), (("_law_fewest" : Str), .fn 18), (("_law_told_back" : Str), .fn 19), (("law" : Str), .fn 20)]
def names : List Str := [("ISTERMINAL" : Str), ("ISNONTERMINAL" : Str), ("ISEOF" : Str), ("rgb_to_hls" : Str), ("hls_to_rgb" : Str), ("_v" : Str), ("rgb_to_hsv" : Str), ("hsv_to_rgb" : Str), ("_strip_quoted_realnames" : Str), ("_check_parenthesis" : Str), ("_law_read" : Str), ("_law_spelled" : Str), ("_law_other" : Str), ("_law_like" : Str), ("_law_lamps" : Str), ("_law_mark" : Str), ("_law_melted" : Str), ("_law_due" : Str), ("_law_fewest" : Str), ("_law_told_back" : Str), ("law" : Str)]
def funs : List FSpec := [f_ISTERMINAL, f_ISNONTERMINAL, f_ISEOF, f_rgb_to_hls, f_hls_to_rgb, f_v, f_rgb_to_hsv, f_hsv_to_rgb, f_strip_quoted_realnames, f_check_parenthesis, f_law_read, f_law_spelled, f_law_other, f_law_like, f_law_lamps, f_law_mark, f_law_melted, f_law_due, f_law_fewest, f_law_told_back, f_law]
end Mine.L2
end
section
open PySem PySem.W PyProof.Rows
namespace Mine
section
variable {F : Nat -> List PV -> Option PV} {pe pe' : PEnv} {s : PS} {ss a b : PSs} {e t : PE} {p : PV} {i j : Nat} {R : Option (PEnv × Fl)}
theorem seq (h1 : denS F s pe = some (pe', .next)) (h2 : denSs F ss pe' = R) : denSs F (.cons s ss) pe = R := by
  simp only [denSs, h1]; exact h2
theorem seq_last (h1 : denS F s pe = some (pe', .next)) : denSs F (.cons s .nil) pe = some (pe', .next) := by
  simp only [denSs, h1]
theorem seq_nil : denSs F .nil pe = some (pe, .next) := by simp only [denSs]
theorem seq_ret (h : denE F e pe = some p) : denSs F (.cons (.ret e) ss) pe = some (pe, .ret p) := by
  simp only [denSs, denS, h]
theorem seq_out {fl : Fl} (h1 : denS F s pe = some (pe', fl)) (h : fl ≠ .next) : denSs F (.cons s ss) pe = some (pe', fl) := by
  simp only [denSs, h1]; cases fl with
  | next => exact absurd rfl h
  | _ => rfl
theorem asg (h : denE F e pe = some p) : denS F (.asg i e) pe = some (st pe i p, .next) := by simp only [denS, h]
theorem asgO {l : List PV} (h : denE F e pe = some (.lst l)) : denS F (.asgO i e) pe = some (st pe i (.lst l), .next) := by simp only [denS, h]
theorem asgT {ts : List Nat} (h : denE F e pe = some p) (hb : bindT ts p pe = some pe') : denS F (.asgT ts e) pe = some (pe', .next) := by simp only [denS, h, hb]
theorem app {l : List PV} (h0 : lk pe i = some (.lst l)) (h : denE F e pe = some p) (hl : l.length <= 100000) : denS F (.app i e) pe = some (st pe i (.lst (l ++ [p])), .next) := by simp only [denS, h, h0, hl, if_true]
theorem ext {l l' : List PV} (h0 : lk pe i = some (.lst l)) (h : denE F e pe = some (.lst l')) (hl : l.length + l'.length <= 100000) : denS F (.ext i e) pe = some (st pe i (.lst (l ++ l')), .next) := by simp only [denS, h, h0, hl, if_true]
theorem ite_t (h : denE F t pe = some (.bool true)) (h2 : denSs F a pe = R) : denS F (.ite t a b) pe = R := by simp only [denS, h]; exact h2
theorem ite_f (h : denE F t pe = some (.bool false)) (h2 : denSs F b pe = R) : denS F (.ite t a b) pe = R := by simp only [denS, h]; exact h2
theorem ite_b {c : Bool} (h : denE F t pe = some (.bool c)) (h1 : c = true -> denSs F a pe = R) (h2 : c = false -> denSs F b pe = R) : denS F (.ite t a b) pe = R := by
  cases c
  · exact ite_f h (h2 rfl)
  · exact ite_t h (h1 rfl)
theorem aug {x y z : PV} {op : Operator} (h0 : lk pe i = some x) (h : denE F e pe = some y) (hz : augF op x y = some z) : denS F (.aug i op e) pe = some (st pe i z, .next) := by simp only [denS, h, h0, hz]
theorem pop {l : List PV} {y : PV} (h0 : lk pe i = some (.lst (l ++ [y]))) (hl : l.length + 1 <= 100000) : denS F (.pop j i) pe = some (st (st pe i (.lst l)) j y, .next) := by
  simp only [denS, h0, List.getLast?_concat, List.length_append, List.length_cons, List.length_nil, Nat.zero_add, hl, if_true, List.dropLast_concat]
theorem for_s {src : PI} {ts : List Nat} {items : List PV} (h : denI F src pe = some items) (h2 : forF (denSs F a) ts items pe = R) : denS F (.for ts src a) pe = R := by simp only [denS, h]; exact h2
theorem esc_s {ts : List Nat} {items : List PV} (h : denE F e pe = some p) (hi : escItems p = some items) (h2 : forF (denSs F a) ts items pe = R) : denS F (.esc ts e a) pe = R := by simp only [denS, h, hi]; exact h2
theorem while_s {n : Nat} (h2 : whileF (denE F t) (denSs F a) n pe = R) : denS F (.while n t a) pe = R := by simp only [denS]; exact h2
theorem fun_ret {f : FSpec} {args : List PV} {v : PV} (hl : args.length = f.pars.length) (h : denSs F f.code (initPE args f.n) = some (pe', .ret v)) : denF F f args = some v := by
  unfold denF; rw [if_pos hl, h]
def rets : Option (PEnv × Fl) -> Option PV
  | some (_, .ret v) => some v
  | _ => none
theorem fun_r {f : FSpec} {args : List PV} {v : PV} (hl : args.length = f.pars.length) (h : rets (denSs F f.code (initPE args f.n)) = some v) : denF F f args = some v := by
  unfold denF; rw [if_pos hl]; exact h
theorem r_seq {v : Option PV} (h1 : denS F s pe = some (pe', .next)) (h2 : rets (denSs F ss pe') = v) : rets (denSs F (.cons s ss) pe) = v := by
  simp only [denSs, h1]; exact h2
theorem r_ret (h : denE F e pe = some p) : rets (denSs F (.cons (.ret e) ss) pe) = some p := by
  simp only [denSs, denS, h]; rfl
theorem r_out {v : PV} (h : rets (denS F s pe) = some v) : rets (denSs F (.cons s ss) pe) = some v := by
  simp only [denSs]; cases hd : denS F s pe with
  | none => rw [hd] at h; cases h
  | some x =>
    obtain ⟨q, fl⟩ := x; rw [hd] at h; cases fl with
    | ret u => exact h
    | _ => cases h
theorem r_ite_t {v : PV} (h : denE F t pe = some (.bool true)) (h2 : rets (denSs F a pe) = some v) : rets (denSs F (.cons (.ite t a b) ss) pe) = some v := r_out (by rw [ite_t h rfl]; exact h2)
theorem r_skip {v : Option PV} (h : denE F t pe = some (.bool false)) (h2 : rets (denSs F ss pe) = v) : rets (denSs F (.cons (.ite t a .nil) ss) pe) = v := r_seq (ite_f h seq_nil) h2
end
theorem b_add_ii (x y : Int) : binF .Add (.int x) (.int y) = some (.int (x + y)) := rfl
theorem b_sub_ii (x y : Int) : binF .Sub (.int x) (.int y) = some (.int (x - y)) := rfl
theorem b_mul_ii (x y : Int) (h : smallI x = true) : binF .Mult (.int x) (.int y) = some (.int (x * y)) := by show (if _ then _ else _) = _; rw [if_pos h]
theorem b_mod_ii (x y : Int) (h : 0 < y) : binF .Mod (.int x) (.int y) = some (.int (x % y)) := by show (if _ then _ else _) = _; rw [if_pos h]
theorem b_fdiv_ii (x y : Int) (h : 0 < y /\ y < 1000000000) : binF .FloorDiv (.int x) (.int y) = some (.int (x / y)) := by show (if _ then _ else _) = _; rw [if_pos h]
theorem b_pow_ii (x y : Int) (h : 2 <= x /\ x < 100 /\ 0 <= y /\ y < 100) : binF .Pow (.int x) (.int y) = some (.int (x ^ y.toNat)) := by show (if _ then _ else _) = _; rw [if_pos h]
theorem b_add_ff (x y : UInt64) : binF .Add (.flt x) (.flt y) = some (.flt (Float64.add x y)) := rfl
theorem b_sub_ff (x y : UInt64) : binF .Sub (.flt x) (.flt y) = some (.flt (Float64.sub x y)) := rfl
theorem b_mul_ff (x y : UInt64) : binF .Mult (.flt x) (.flt y) = some (.flt (Float64.mul x y)) := rfl
theorem b_div_ff (x y : UInt64) (h : Float64.isZero y = false) : binF .Div (.flt x) (.flt y) = some (.flt (Float64.div x y)) := by show (if _ then _ else _) = _; rw [h]; rfl
theorem b_mod_ff (x y : UInt64) (h : Float64.isZero y = false) : binF .Mod (.flt x) (.flt y) = some (.flt (Float64.divmod x y).2) := by show (if _ then _ else _) = _; rw [h]; rfl
theorem b_sub_fi (x : UInt64) (y : Int) (h : okF y = true) : binF .Sub (.flt x) (.int y) = some (.flt (Float64.sub x (Float64.ofInt y))) := by show (if _ then _ else _) = _; rw [if_pos h]
theorem b_mul_if (x : Int) (y : UInt64) (h : okF x = true) : binF .Mult (.int x) (.flt y) = some (.flt (Float64.mul (Float64.ofInt x) y)) := by show (if _ then _ else _) = _; rw [if_pos h]
theorem b_add_ss (x y : Str) (h : x.length + y.length <= 100000) : binF .Add (.str x) (.str y) = some (.str (x ++ y)) := by show (if _ then _ else _) = _; rw [if_pos h]
theorem b_add_ll (x y : List PV) (h : x.length + y.length <= 100000) : binF .Add (.lst x) (.lst y) = some (.lst (x ++ y)) := by show (if _ then _ else _) = _; rw [if_pos h]
def eqB (a b : UInt64) : Bool := Float64.cmp a b == some Ordering.eq
theorem c_eq_ff (x y : UInt64) : cmpF .Eq (.flt x) (.flt y) = some (eqB x y) := rfl
theorem c_lt_ff (x y : UInt64) : cmpF .Lt (.flt x) (.flt y) = some (ltB x y) := rfl
theorem c_le_ff (x y : UInt64) : cmpF .LtE (.flt x) (.flt y) = some (ltB x y || eqB x y) := rfl
theorem c_lt_ii (x y : Int) : cmpF .Lt (.int x) (.int y) = some (decide (x < y)) := rfl
theorem c_le_ii (x y : Int) : cmpF .LtE (.int x) (.int y) = some (decide (x <= y)) := rfl
theorem c_gt_ii (x y : Int) : cmpF .Gt (.int x) (.int y) = some (decide (x > y)) := rfl
theorem c_ge_ii (x y : Int) : cmpF .GtE (.int x) (.int y) = some (decide (x >= y)) := rfl
theorem i_max2 (x y : Int) : biF .max [.int x, .int y] = some (.int (if y > x then y else x)) := rfl
theorem i_min2 (x y : Int) : biF .min [.int x, .int y] = some (.int (if y < x then y else x)) := rfl
theorem c_eq_ii (x y : Int) : cmpF .Eq (.int x) (.int y) = some (x == y) := by
  show eqF 3 (.int x) (.int y) = _; rfl
def mx3 (r g b : UInt64) : UInt64 := if gtB g r then (if gtB b g then b else g) else (if gtB b r then b else r)
def mn3 (r g b : UInt64) : UInt64 := if ltB g r then (if ltB b g then b else g) else (if ltB b r then b else r)
theorem i_max3 (r g b : UInt64) : biF .max [.flt r, .flt g, .flt b] = some (.flt (mx3 r g b)) := rfl
theorem i_min3 (r g b : UInt64) : biF .min [.flt r, .flt g, .flt b] = some (.flt (mn3 r g b)) := rfl
theorem EVL : (∀ x y : Int, binF .Add (.int x) (.int y) = some (.int (x + y))) /\ (∀ x y : Int, binF .Sub (.int x) (.int y) = some (.int (x - y))) /\ (∀ x y : UInt64, binF .Add (.flt x) (.flt y) = some (.flt (Float64.add x y))) /\ (∀ x y : UInt64, binF .Sub (.flt x) (.flt y) = some (.flt (Float64.sub x y))) /\ (∀ x y : UInt64, binF .Mult (.flt x) (.flt y) = some (.flt (Float64.mul x y))) /\ (∀ x y : UInt64, cmpF .Eq (.flt x) (.flt y) = some (eqB x y)) /\ (∀ x y : UInt64, cmpF .Lt (.flt x) (.flt y) = some (ltB x y)) /\ (∀ x y : UInt64, cmpF .LtE (.flt x) (.flt y) = some (ltB x y || eqB x y)) /\ (∀ x y : Int, cmpF .Lt (.int x) (.int y) = some (decide (x < y))) /\ (∀ x y : Int, cmpF .LtE (.int x) (.int y) = some (decide (x <= y))) /\ (∀ x y : Int, cmpF .Gt (.int x) (.int y) = some (decide (x > y))) /\ (∀ x y : Int, cmpF .GtE (.int x) (.int y) = some (decide (x >= y))) /\ (∀ x y : Int, cmpF .Eq (.int x) (.int y) = some (x == y)) /\ (∀ x y : Int, biF .max [.int x, .int y] = some (.int (if y > x then y else x))) /\ (∀ x y : Int, biF .min [.int x, .int y] = some (.int (if y < x then y else x))) /\ (∀ r g b : UInt64, biF .max [.flt r, .flt g, .flt b] = some (.flt (mx3 r g b))) /\ (∀ r g b : UInt64, biF .min [.flt r, .flt g, .flt b] = some (.flt (mn3 r g b))) /\ (∀ (α β : Type) (f : α -> β) (a : α), (some a).map f = some (f a)) :=
  ⟨b_add_ii, b_sub_ii, b_add_ff, b_sub_ff, b_mul_ff, c_eq_ff, c_lt_ff, c_le_ff, c_lt_ii, c_le_ii, c_gt_ii, c_ge_ii, c_eq_ii, i_max2, i_min2, i_max3, i_min3, fun _ _ _ _ => rfl⟩
end Mine
end
section
open PySem PySem.W PyProof.Rows
namespace Mine
def sx (l : List Nat) : Str := ⟨l.toArray⟩
theorem sx_len (l : List Nat) : (sx l).length = l.length := by simp [sx, Str.length]
theorem sx_cps (l : List Nat) : (sx l).cps.toList = l := by simp [sx]
theorem sx_inj {a b : List Nat} (h : sx a = sx b) : a = b := by rw [<- sx_cps a, h, sx_cps]
theorem sx_app (a b : List Nat) : sx a ++ sx b = sx (a ++ b) := by
  show Str.mk _ = Str.mk _; simp [sx]
theorem sx_beq (a b : List Nat) : (sx a == sx b) = (a == b) := by
  by_cases h : a = b
  · subst h; simp
  · rw [beq_eq_false_iff_ne.mpr h, beq_eq_false_iff_ne]; exact fun e => h (sx_inj e)
theorem fm_range {α : Type} (l : List α) : ∀ (n a : Nat), ((List.range n).map (a + ·)).filterMap (l[·]?) = (l.drop a).take n
  | 0, a => by simp
  | n + 1, a => by
    rw [List.range_succ, List.map_append, List.filterMap_append, fm_range l n a]; simp only [List.map_cons, List.map_nil, List.filterMap_cons, List.filterMap_nil]; rw [List.take_succ, List.getElem?_drop]; cases l[a + n]? <;> simp
theorem sr_one (a b : Nat) : sliceRange (a : Int) (b : Int) 1 = (List.range (b - a)).map (a + ·) := sliceRange_one a b
section
variable {α : Type}
theorem l_upto (l : List PV) (k : Int) (h : 0 <= k) (hl : l.length <= 100000) : sliceF (.lst l) none (some k) none = some (.lst (l.take k.toNat)) := by
  show (if _ then _ else _) = _; rw [if_pos ⟨hl, by simp⟩]; congr 2; unfold sliceIx sliceBounds; simp only [Option.getD_none, show (1 : Int) > 0 by decide, if_true]; have e : (max 0 (min (if k < 0 then k + (l.length : Int) else k) (l.length : Int))) = ((min k.toNat l.length : Nat) : Int) := by
    rw [if_neg (by omega)]; omega
  rw [e, show (0 : Int) = ((0 : Nat) : Int) from rfl, sr_one, fm_range]; simp
theorem l_from (l : List PV) (k : Int) (h : 0 <= k) (hl : l.length <= 100000) : sliceF (.lst l) (some k) none none = some (.lst (l.drop k.toNat)) := by
  show (if _ then _ else _) = _; rw [if_pos ⟨hl, by simp⟩]; congr 2; unfold sliceIx sliceBounds; simp only [Option.getD_none, show (1 : Int) > 0 by decide, if_true]; have e : (max 0 (min (if k < 0 then k + (l.length : Int) else k) (l.length : Int))) = ((min k.toNat l.length : Nat) : Int) := by
    rw [if_neg (by omega)]; omega
  rw [e, sr_one, fm_range]
  by_cases hk : k.toNat <= l.length
  · rw [Nat.min_eq_left hk, List.take_of_length_le (by simp)]
  · rw [Nat.min_eq_right (by omega), List.drop_eq_nil_of_le (Nat.le_refl _), List.drop_eq_nil_of_le (by omega)]; simp
theorem l_mid (l : List PV) (a b : Int) (h : 0 <= a) (h' : 0 <= b) (hl : l.length <= 100000) : sliceF (.lst l) (some a) (some b) none = some (.lst ((l.take b.toNat).drop a.toNat)) := by
  show (if _ then _ else _) = _; rw [if_pos ⟨hl, by simp⟩]; congr 2; unfold sliceIx sliceBounds; simp only [Option.getD_none, show (1 : Int) > 0 by decide, if_true]; have e : (max 0 (min (if a < 0 then a + (l.length : Int) else a) (l.length : Int))) = ((min a.toNat l.length : Nat) : Int) := by
    rw [if_neg (by omega)]; omega
  have e' : (max 0 (min (if b < 0 then b + (l.length : Int) else b) (l.length : Int))) = ((min b.toNat l.length : Nat) : Int) := by
    rw [if_neg (by omega)]; omega
  rw [e, e', sr_one, fm_range]; rw [List.drop_take]
  by_cases ha : a.toNat <= l.length
  · rw [Nat.min_eq_left ha]
    by_cases hb : b.toNat <= l.length
    · rw [Nat.min_eq_left hb]
    · rw [Nat.min_eq_right (by omega), List.take_of_length_le (by simp), List.take_of_length_le (by simp; omega)]
  · rw [show min a.toNat l.length = l.length by omega, List.drop_eq_nil_of_le (Nat.le_refl _), List.drop_eq_nil_of_le (by omega)]; simp
theorem fm_congr2 {α β : Type} {f g : α -> Option β} : ∀ {l : List α}, (∀ x ∈ l, f x = g x) -> l.filterMap f = l.filterMap g
  | [], _ => rfl
  | a :: l, h => by rw [List.filterMap_cons, List.filterMap_cons, h a (by simp), fm_congr2 fun x hx => h x (by simp [hx])]
theorem str_eq (l : List Nat) (ix : List Nat) (r : List Nat) (h : ix.filterMap (l[·]?) = r) (hix : ix.length = r.length) (hr : r.length = l.length -> r = l) :
    (if (ix.length == (sx l).length) = true then sx l else (⟨(ix.filterMap ((sx l).cps[·]?)).toArray⟩ : Str)) = sx r := by
  have e : ∀ i : Nat, (sx l).cps[i]? = l[i]? := by intro i; simp [sx]
  have e2 : ix.filterMap ((sx l).cps[·]?) = r := by rw [<- h]; exact fm_congr2 fun i _ => e i
  rw [e2, sx_len]
  by_cases hc : ix.length = l.length
  · rw [if_pos (by simpa using hc), hr (by omega)]
  · rw [if_neg (by simpa using hc)]; rfl
theorem s_upto (l : List Nat) (k : Int) (h : 0 <= k) (hl : l.length <= 100000) : sliceF (.str (sx l)) none (some k) none = some (.str (sx (l.take k.toNat))) := by
  have e : strIx none (some k) none (sx l).length = (List.range (min k.toNat l.length)).map (0 + ·) := by
    unfold strIx Builtin.Str.strSliceIndices; simp only [Option.getD_none, show (1 : Int) > 0 by decide, if_true, sx_len]; have e : (max 0 (min (if k < 0 then k + (l.length : Int) else k) (l.length : Int))) = ((min k.toNat l.length : Nat) : Int) := by
      rw [if_neg (by omega)]; omega
    rw [e, show (0 : Int) = ((0 : Nat) : Int) from rfl, sr_one, Nat.sub_zero]
  show (if _ then _ else _) = _; rw [e, if_pos ⟨rfl, by simp; omega⟩]; congr 2; refine str_eq l _ _ ?_ ?_ ?_
  · rw [fm_range]; simp
  · simp
  · intro hr; rw [List.length_take] at hr; exact List.take_of_length_le (by omega)
theorem s_from (l : List Nat) (k : Int) (h : 0 <= k) (hl : l.length <= 100000) : sliceF (.str (sx l)) (some k) none none = some (.str (sx (l.drop k.toNat))) := by
  have e : strIx (some k) none none (sx l).length = (List.range (l.length - min k.toNat l.length)).map (min k.toNat l.length + ·) := by
    unfold strIx Builtin.Str.strSliceIndices; simp only [Option.getD_none, show (1 : Int) > 0 by decide, if_true, sx_len]; have e : (max 0 (min (if k < 0 then k + (l.length : Int) else k) (l.length : Int))) = ((min k.toNat l.length : Nat) : Int) := by
      rw [if_neg (by omega)]; omega
    rw [e, sr_one]
  show (if _ then _ else _) = _; rw [e, if_pos ⟨rfl, by simp; omega⟩]; congr 2; refine str_eq l _ _ ?_ ?_ ?_
  · rw [fm_range]
    by_cases hk : k.toNat <= l.length
    · rw [Nat.min_eq_left hk, List.take_of_length_le (by simp)]
    · rw [Nat.min_eq_right (by omega), List.drop_eq_nil_of_le (Nat.le_refl _), List.drop_eq_nil_of_le (by omega)]; simp
  · simp; omega
  · intro hr; rw [List.length_drop] at hr
    by_cases h0 : k.toNat = 0
    · rw [h0]; rfl
    · have : l = [] := List.eq_nil_of_length_eq_zero (by omega); rw [this]; simp
theorem s_mid (l : List Nat) (a b : Int) (h : 0 <= a) (h' : 0 <= b) (hl : l.length <= 100000) : sliceF (.str (sx l)) (some a) (some b) none = some (.str (sx ((l.take b.toNat).drop a.toNat))) := by
  have e : strIx (some a) (some b) none (sx l).length = (List.range (min b.toNat l.length - min a.toNat l.length)).map (min a.toNat l.length + ·) := by
    unfold strIx Builtin.Str.strSliceIndices; simp only [Option.getD_none, show (1 : Int) > 0 by decide, if_true, sx_len]; have e : (max 0 (min (if a < 0 then a + (l.length : Int) else a) (l.length : Int))) = ((min a.toNat l.length : Nat) : Int) := by
      rw [if_neg (by omega)]; omega
    have e' : (max 0 (min (if b < 0 then b + (l.length : Int) else b) (l.length : Int))) = ((min b.toNat l.length : Nat) : Int) := by
      rw [if_neg (by omega)]; omega
    rw [e, e', sr_one]
  show (if _ then _ else _) = _; rw [e, if_pos ⟨rfl, by simp; omega⟩]; congr 2; refine str_eq l _ _ ?_ ?_ ?_
  · rw [fm_range, List.drop_take]
    by_cases ha : a.toNat <= l.length
    · rw [Nat.min_eq_left ha]
      by_cases hb : b.toNat <= l.length
      · rw [Nat.min_eq_left hb]
      · rw [Nat.min_eq_right (by omega), List.take_of_length_le (by simp), List.take_of_length_le (by simp; omega)]
    · rw [show min a.toNat l.length = l.length by omega, List.drop_eq_nil_of_le (Nat.le_refl _), List.drop_eq_nil_of_le (by omega)]; simp
  · simp; omega
  · intro hr; rw [List.length_drop, List.length_take] at hr
    by_cases hl0 : l.length = 0
    · have : l = [] := List.eq_nil_of_length_eq_zero hl0; rw [this]; simp
    · have : a.toNat = 0 := by omega
      rw [this, List.drop_zero]; exact List.take_of_length_le (by omega)
end
theorem c_eq_ss (a b : List Nat) : cmpF .Eq (.str (sx a)) (.str (sx b)) = some (a == b) := by
  show eqF 3 _ _ = _; show some (sx a == sx b) = _; rw [sx_beq]
theorem c_ne_ss (a b : List Nat) : cmpF .NotEq (.str (sx a)) (.str (sx b)) = some (!(a == b)) := by
  show (some (sx a == sx b)).map (!·) = _; rw [sx_beq]; rfl
theorem b_add_sx (a b : List Nat) (h : a.length + b.length <= 100000) : binF .Add (.str (sx a)) (.str (sx b)) = some (.str (sx (a ++ b))) := by
  rw [b_add_ss _ _ (by rw [sx_len, sx_len]; exact h), sx_app]
end Mine
end
section
open PySem PySem.W PyProof.Rows
namespace Mine
section
variable {F : Nat -> List PV -> Option PV} {pe pe' : PEnv} {a : PSs} {t : PE} {n : Nat} {R : Option (PEnv × Fl)}
theorem wh_f (h : denE F t pe = some (.bool false)) : whileF (denE F t) (denSs F a) (n + 1) pe = some (pe, .next) := by
  show (match denE F t pe with | some (.bool false) => _ | some (.bool true) => _ | _ => _) = _; rw [h]
theorem wh_t (h : denE F t pe = some (.bool true)) (hb : denSs F a pe = some (pe', .next)) (h2 : whileF (denE F t) (denSs F a) n pe' = R) : whileF (denE F t) (denSs F a) (n + 1) pe = R := by
  show (match denE F t pe with | some (.bool false) => _ | some (.bool true) => _ | _ => _) = _; rw [h]; show (match denSs F a pe with | some (pe2, .next) => _ | some (pe2, .brk) => _ | some (pe2, .ret v) => _ | none => _) = _; rw [hb]; exact h2
end
def tokL : List (Str × SV) := match Co.g_EXACT_TOKEN_TYPES with | .dcts l => l | _ => []
theorem tokL_eq : Co.g_EXACT_TOKEN_TYPES = .dcts tokL := rfl
def tk (l : List Nat) : Option Int := match tokL.lookup (sx l) with
  | some (.i n) => some n
  | _ => none
theorem tokL_int : ∀ x ∈ tokL, ∃ n, x.2 = SV.i n := by
  have : (tokL.all fun x => match x.2 with | .i _ => true | _ => false) = true := by decide +kernel
  intro x hx; have := List.all_eq_true.mp this x hx; cases h : x.2 with
  | i n => exact ⟨n, rfl⟩
  | t s => rw [h] at this; cases this
theorem tk_some {l : List Nat} {n : Int} (h : tk l = some n) : tokL.lookup (sx l) = some (.i n) := by
  unfold tk at h; split at h
  · rename_i m e; cases h; exact e
  · cases h
theorem tk_none {l : List Nat} (h : tk l = none) : tokL.lookup (sx l) = none := by
  cases hl : tokL.lookup (sx l) with
  | none => rfl
  | some v =>
    obtain ⟨n, hn⟩ := tokL_int _ (mem_lookup hl); simp only at hn; subst hn; unfold tk at h; rw [hl] at h; cases h
def munch (l : List Nat) : Option (Int × Nat) := match tk (l.take 3) with
  | some n => some (n, 3)
  | none => match tk (l.take 2) with
    | some n => some (n, 2)
    | none => match tk (l.take 1) with
      | some n => some (n, 1)
      | none => none
def toks : Nat -> List Nat -> Option (List Int)
  | _, [] => some []
  | 0, _ :: _ => none
  | f + 1, c :: l => match munch (c :: l) with
    | some (n, k) => (toks f ((c :: l).drop k)).map (n :: ·)
    | none => none
variable {F : Nat -> List PV -> Option PV}
theorem read_inner (l : List Nat) (nums : PV) (hl : l.length <= 100000) {n : Int} {k : Nat} (h : munch l = some (n, k)) :
    whileF (denE F (.cmp .NotIn (.slc (.var 0) (.cst .none) (.var 2) (.cst .none)) (.gcst Co.g_EXACT_TOKEN_TYPES))) (denSs F (.cons (.aug 2 .Sub (.cst (.int 1))) .nil)) 1000 [some (.str (sx l)), some nums, some (.int 3)] =
      some ([some (.str (sx l)), some nums, some (.int (k : Int))], .next) /\ tk (l.take k) = some n /\ 1 <= k := by
  have test : ∀ m : Int, 0 <= m -> denE F (.cmp .NotIn (.slc (.var 0) (.cst .none) (.var 2) (.cst .none)) (.gcst Co.g_EXACT_TOKEN_TYPES)) [some (.str (sx l)), some nums, some (.int m)] = some (.bool (!(tokL.lookup (sx (l.take m.toNat))).isSome)) := by
    intro m hm; rw [tokL_eq]; simp only [denE, denEs, denI, lk, st, EVL, partF, s_upto l m hm hl]; rfl
  have dec : ∀ m : Int, denSs F (.cons (.aug 2 .Sub (.cst (.int 1))) .nil) [some (.str (sx l)), some nums, some (.int m)] = some ([some (.str (sx l)), some nums, some (.int (m - 1))], .next) := fun m => seq_last (aug rfl rfl rfl); unfold munch at h; cases h3 : tk (l.take 3) with
  | some n3 =>
    rw [h3] at h; cases h; refine ⟨wh_f ?_, h3, by decide⟩; rw [test 3 (by decide), show (3 : Int).toNat = 3 from rfl, tk_some h3]; rfl
  | none =>
    rw [h3] at h; simp only at h; have t3 := test 3 (by decide); rw [show (3 : Int).toNat = 3 from rfl, tk_none h3] at t3; cases h2 : tk (l.take 2) with
    | some n2 =>
      rw [h2] at h; cases h; refine ⟨wh_t t3 (dec 3) (wh_f ?_), h2, by decide⟩; rw [show (3 - 1 : Int) = 2 from rfl, test 2 (by decide), show (2 : Int).toNat = 2 from rfl, tk_some h2]; rfl
    | none =>
      rw [h2] at h; simp only at h; have t2 := test 2 (by decide); rw [show (2 : Int).toNat = 2 from rfl, tk_none h2] at t2; cases h1 : tk (l.take 1) with
      | some n1 =>
        rw [h1] at h; cases h; refine ⟨wh_t t3 (dec 3) (wh_t t2 (dec 2) (wh_f ?_)), h1, by decide⟩; rw [show (2 - 1 : Int) = 1 from rfl, test 1 (by decide), show (1 : Int).toNat = 1 from rfl, tk_some h1]; rfl
      | none => rw [h1] at h; cases h
theorem read_loop : ∀ (f : Nat) (l : List Nat) (r : List Int) (acc : List PV) (sz : Option PV), toks f l = some r -> l.length <= 1000 -> acc.length + f <= 10000 ->
    ∃ sz', whileF (denE F (.cmp .NotEq (.var 0) (.cst (.str ("" : Str))))) (denSs F (.cons (.asg 2 (.cst (.int 3))) (.cons (.while 1000 (.cmp .NotIn (.slc (.var 0) (.cst .none) (.var 2) (.cst .none)) (.gcst Co.g_EXACT_TOKEN_TYPES)) (.cons (.aug 2 .Sub (.cst (.int 1))) .nil)) (.cons (.app 1 (.sub (.gcst Co.g_EXACT_TOKEN_TYPES) (.slc (.var 0) (.cst .none) (.var 2) (.cst .none)))) (.cons (.asg 0 (.slc (.var 0) (.var 2) (.cst .none) (.cst .none))) .nil)))))
      (f + 1) [some (.str (sx l)), some (.lst acc), sz] = some ([some (.str (sx [])), some (.lst (acc ++ r.map .int)), sz'], .next)
  | f, [], r, acc, sz, h, _, _ => by
    simp [toks] at h; subst h; refine ⟨sz, ?_⟩; rw [List.map_nil, List.append_nil]; refine wh_f ?_; rw [show ("" : Str) = sx [] from rfl]; simp only [denE, denEs, denI, lk, st, EVL, c_ne_ss]; rfl
  | 0, _ :: _, _, _, _, h, _, _ => by simp [toks] at h
  | f + 1, c :: l, r, acc, sz, h, hl, ha => by
    unfold toks at h; cases hm : munch (c :: l) with
    | none => rw [hm] at h; cases h
    | some x =>
      obtain ⟨n, k⟩ := x; rw [hm] at h; simp only at h; cases ht : toks f ((c :: l).drop k) with
      | none => rw [ht] at h; cases h
      | some r' =>
        rw [ht] at h; cases h; obtain ⟨i1, i2, i3⟩ := read_inner (F := F) (c :: l) (.lst acc) (by omega) hm; obtain ⟨sz', ih⟩ := read_loop f ((c :: l).drop k) r' (acc ++ [.int n]) (some (.int (k : Int))) ht (by simp; simp at hl; omega) (by simp; omega); refine ⟨sz', wh_t (pe' := [some (.str (sx ((c :: l).drop k))), some (.lst (acc ++ [.int n])), some (.int (k : Int))]) ?_ ?_ ?_⟩
        · rw [show ("" : Str) = sx [] from rfl]; simp only [denE, denEs, denI, lk, st, EVL, c_ne_ss]; rfl
        · refine seq (asg (by simp only [denE, denEs, denI, lk, st, EVL]; try rfl)) ?_; simp only [st]; refine seq (while_s i1) ?_; refine seq (app (p := .int n) (l := acc) rfl ?_ (by omega)) ?_
          · rw [tokL_eq]; simp only [denE, denEs, denI, lk, st, EVL, partF, s_upto (c :: l) (k : Int) (by omega) (by omega), Int.toNat_natCast]; show (tokL.lookup (sx ((c :: l).take k))).map SV.pv = _; rw [tk_some i2]; rfl
          · simp only [st]; refine seq_last (asg ?_); simp only [denE, denEs, denI, lk, st, EVL, partF, s_from (c :: l) (k : Int) (by omega) (by omega), Int.toNat_natCast]
        · rw [ih]; simp
theorem read_den {l : List Nat} {r : List Int} (h : toks 999 l = some r) (hl : l.length <= 1000) : denF F Co.f_law_read [.str (sx l)] = some (.lst (r.map .int)) := by
  apply fun_r rfl; show rets (denSs F Co.f_law_read.code [some (.str (sx l)), none, none]) = _; unfold Co.f_law_read; refine r_seq (asgO (l := []) (by simp only [denE, denEs, denI, lk, st, EVL]; try rfl)) ?_; simp only [st]; obtain ⟨sz', hw⟩ := read_loop (F := F) 999 l r [] none h hl (by decide); refine r_seq (while_s hw) ?_; refine r_ret ?_; simp only [denE, denEs, denI, lk, st, EVL]; simp
end Mine
end
section
open PySem PySem.W PyProof.Rows
namespace Mine
def itm (x : Nat × List Nat) : PV := .tup [.int (x.1 : Int), .str (sx x.2)]
def esc : Nat -> Bool -> List Nat -> List (Nat × List Nat)
  | k, true, [] => [(k - 1, [92])]
  | _, false, [] => []
  | k, true, c :: l => (k, [92, c]) :: esc (k + 1) false l
  | k, false, c :: l => if c = 92 then esc (k + 1) true l else (k, [c]) :: esc (k + 1) false l
theorem escF_eq : ∀ (l : List Nat) (k : Nat) (b : Bool), (b = true -> 0 < k) -> escF k b l = (esc k b l).map itm
  | [], k, true, h => by
    have := h rfl; simp only [escF, esc, List.map_cons, List.map_nil, itm, sx]; rw [show ((k : Int) - 1) = ((k - 1 : Nat) : Int) by omega]
  | [], k, false, _ => rfl
  | c :: l, k, true, _ => by
    simp only [escF, esc, List.map_cons, itm, sx]; rw [escF_eq l (k + 1) false (by simp)]
  | c :: l, k, false, _ => by
    simp only [escF, esc]; split
    · exact escF_eq l (k + 1) true (by simp)
    · simp only [List.map_cons, itm, sx]; rw [escF_eq l (k + 1) false (by simp)]
theorem escItems_eq {l : List Nat} (hl : l.length <= 10000) (ha : l.all (· < 128) = true) : escItems (.str (sx l)) = some ((esc 0 false l).map itm) := by
  show (if _ then _ else _) = _; rw [if_pos ⟨by rw [sx_len]; exact hl, by simpa [sx] using ha⟩, sx_cps, <- escF_eq l 0 false (by simp)]
def pend : Bool -> List Nat -> Bool
  | b, [] => b
  | true, _ :: l => pend false l
  | false, c :: l => pend (c == 92) l
theorem esc_app : ∀ (a b : List Nat) (k : Nat) (p : Bool), pend p a = false -> esc k p (a ++ b) = esc k p a ++ esc (k + a.length) false b
  | [], b, k, p, h => by
    simp only [pend] at h; subst h; simp [esc]
  | c :: a, b, k, true, h => by
    simp only [pend] at h; simp only [List.cons_append, esc, List.length_cons]; rw [esc_app a b (k + 1) false h]; congr 3; omega
  | c :: a, b, k, false, h => by
    simp only [pend] at h; simp only [List.cons_append, esc, List.length_cons]; split
    · rename_i hc; rw [hc] at h; rw [esc_app a b (k + 1) true h]; congr 2; omega
    · rename_i hc; have : (c == 92) = false := by simpa using hc
      rw [this] at h; rw [List.cons_append, esc_app a b (k + 1) false h]; congr 3; omega
structure SQ where
  start : Nat
  op : Option Nat
  acc : List (List Nat)
def sqStep (full : List Nat) (s : SQ) (x : Nat × List Nat) : SQ :=
  if x.2 = [34] then match s.op with
    | none => { s with op := some x.1 }
    | some o => ⟨x.1 + 1, none, if s.start = o then s.acc else s.acc ++ [(full.take o).drop s.start]⟩
  else s
def sq (full : List Nat) (s : SQ) (l : List (Nat × List Nat)) : SQ := l.foldl (sqStep full) s
def opPV : Option Nat -> PV
  | none => .none
  | some o => .int (o : Int)
def strL (l : List (List Nat)) : PV := .lst (l.map fun x => .str (sx x))
section
variable {F : Nat -> List PV -> Option PV}
theorem bi_len_s (l : List Nat) (h : l.length <= 100000) : biF .len [.str (sx l)] = some (.int (l.length : Int)) := by
  show (if _ then _ else _) = _; rw [if_pos (by rw [sx_len]; exact h), sx_len]
theorem c_ne_ii (x y : Int) : cmpF .NotEq (.int x) (.int y) = some (!(x == y)) := rfl
theorem c_is_none (o : Option Nat) : cmpF .Is (opPV o) .none = some o.isNone := by cases o <;> rfl
theorem sq_step (full : List Nat) (hf : full.length <= 10000) (s : SQ) (x : Nat × List Nat) (p q : Option PV) (hacc : s.acc.length <= 10000) :
    denSs F (.cons (.ite (.cmp .Eq (.var 5) (.cst (.str ("\"" : Str)))) (.cons (.ite (.cmp .Is (.var 2) (.cst .none)) (.cons (.asg 2 (.var 4)) .nil) (.cons (.ite (.cmp .NotEq (.var 1) (.var 2)) (.cons (.app 3 (.slc (.var 0) (.var 1) (.var 2) (.cst .none))) .nil) .nil) (.cons (.asg 1 (.bin .Add (.var 4) (.cst (.int 1)))) (.cons (.asg 2 (.cst .none)) .nil)))) .nil) .nil) .nil)
      [some (.str (sx full)), some (.int (s.start : Int)), some (opPV s.op), some (strL s.acc), some (.int (x.1 : Int)), some (.str (sx x.2))] =
      some ([some (.str (sx full)), some (.int ((sqStep full s x).start : Int)), some (opPV (sqStep full s x).op), some (strL (sqStep full s x).acc), some (.int (x.1 : Int)), some (.str (sx x.2))], .next) := by
  obtain ⟨k, u⟩ := x; obtain ⟨start, op, acc⟩ := s; simp only at hacc ⊢; rw [show ("\"" : Str) = sx [34] from rfl]; unfold sqStep; simp only
  by_cases hu : u = [34]
  · rw [if_pos hu]; subst hu; refine seq_last (ite_t (by simp only [denE, denEs, denI, lk, st, EVL, c_eq_ss]; rfl) ?_); cases op with
    | none =>
      refine seq_last (ite_t (by simp only [denE, denEs, denI, lk, st, EVL, c_is_none]; rfl) ?_); exact seq_last (asg (by simp only [denE, denEs, denI, lk, st, EVL]; try rfl))
    | some o =>
      refine seq_last (ite_f (by simp only [denE, denEs, denI, lk, st, EVL, c_is_none]; rfl) ?_); simp only
      by_cases hs : start = o
      · rw [if_pos hs]; refine seq (ite_f ?_ seq_nil) ?_
        · show denE F _ _ = _; simp only [denE, denEs, denI, lk, st, EVL, opPV, c_ne_ii]; subst hs; simp
        · refine seq (asg (by simp only [denE, denEs, denI, lk, st, EVL]; try rfl)) ?_; simp only [st]; exact seq_last (asg (by simp only [denE, denEs, denI, lk, st, EVL]; try rfl))
      · rw [if_neg hs]; refine seq (ite_t ?_ (seq_last (app (l := acc.map fun x => .str (sx x)) rfl (p := .str (sx ((full.take o).drop start))) ?_ (by simp; omega)))) ?_
        · simp only [denE, denEs, denI, lk, st, EVL, opPV, c_ne_ii]; have : ((start : Int) == (o : Int)) = false := by simp; omega
          rw [this]; rfl
        · simp only [denE, denEs, denI, lk, st, EVL, opPV, partF, s_mid full (start : Int) (o : Int) (by omega) (by omega) (by omega), Int.toNat_natCast]
        · simp only [st]; refine seq (asg (by simp only [denE, denEs, denI, lk, st, EVL]; try rfl)) ?_; simp only [st]; refine (seq_last (asg (by simp only [denE, denEs, denI, lk, st, EVL]; try rfl))).trans ?_; simp only [st, strL, List.map_append, List.map_cons, List.map_nil, opPV]; push_cast; rfl
  · rw [if_neg hu]; refine seq_last (ite_f ?_ seq_nil); simp only [denE, denEs, denI, lk, st, EVL, c_eq_ss]; have : (u == [34]) = false := by simpa using hu
    rw [this]
theorem for_nil {body : PEnv -> Option (PEnv × Fl)} {tg : List Nat} {pe : PEnv} : forF body tg [] pe = some (pe, .next) := rfl
theorem for_next {body : PEnv -> Option (PEnv × Fl)} {tg : List Nat} {p : PV} {l : List PV} {pe pe1 pe2 : PEnv} {R : Option (PEnv × Fl)} (h1 : bindT tg p pe = some pe1) (h2 : body pe1 = some (pe2, .next)) (h3 : forF body tg l pe2 = R) : forF body tg (p :: l) pe = R := by
  simp only [forF, h1, h2]; exact h3
theorem for_brk {body : PEnv -> Option (PEnv × Fl)} {tg : List Nat} {p : PV} {l : List PV} {pe pe1 pe2 : PEnv} (h1 : bindT tg p pe = some pe1) (h2 : body pe1 = some (pe2, .brk)) : forF body tg (p :: l) pe = some (pe2, .next) := by
  simp only [forF, h1, h2]
theorem for_ret {body : PEnv -> Option (PEnv × Fl)} {tg : List Nat} {p v : PV} {l : List PV} {pe pe1 pe2 : PEnv} (h1 : bindT tg p pe = some pe1) (h2 : body pe1 = some (pe2, .ret v)) : forF body tg (p :: l) pe = some (pe2, .ret v) := by
  simp only [forF, h1, h2]
theorem sq_acc (full : List Nat) (s : SQ) (x : Nat × List Nat) : (sqStep full s x).acc.length <= s.acc.length + 1 := by
  unfold sqStep; split
  · split
    · simp
    · simp only; split <;> simp
  · omega
theorem sq_loop (full : List Nat) (hf : full.length <= 10000) : ∀ (l : List (Nat × List Nat)) (s : SQ) (p q : Option PV), s.acc.length + l.length <= 10000 ->
    ∃ p' q', forF (denSs F (.cons (.ite (.cmp .Eq (.var 5) (.cst (.str ("\"" : Str)))) (.cons (.ite (.cmp .Is (.var 2) (.cst .none)) (.cons (.asg 2 (.var 4)) .nil) (.cons (.ite (.cmp .NotEq (.var 1) (.var 2)) (.cons (.app 3 (.slc (.var 0) (.var 1) (.var 2) (.cst .none))) .nil) .nil) (.cons (.asg 1 (.bin .Add (.var 4) (.cst (.int 1)))) (.cons (.asg 2 (.cst .none)) .nil)))) .nil) .nil) .nil)) [4, 5] (l.map itm)
      [some (.str (sx full)), some (.int (s.start : Int)), some (opPV s.op), some (strL s.acc), p, q] =
      some ([some (.str (sx full)), some (.int ((sq full s l).start : Int)), some (opPV (sq full s l).op), some (strL (sq full s l).acc), p', q'], .next)
  | [], s, p, q, _ => ⟨p, q, rfl⟩
  | x :: l, s, p, q, h => by
    simp only [List.length_cons] at h; obtain ⟨p', q', ih⟩ := sq_loop full hf l (sqStep full s x) (some (.int (x.1 : Int))) (some (.str (sx x.2))) (by have := sq_acc full s x; omega); exact ⟨p', q', for_next rfl (sq_step full hf s x p q (by omega)) ih⟩
theorem strsOf_map : ∀ (l : List (List Nat)), strsOf (l.map fun x => PV.str (sx x)) = some (l.map sx)
  | [] => rfl
  | x :: l => by
    show (match isStr (PV.str (sx x)), strsOf (l.map fun x => PV.str (sx x)) with | some a, some b => some (a :: b) | _, _ => none) = _; rw [strsOf_map l]; rfl
def joinL (sep : List Nat) : List (List Nat) -> List Nat
  | [] => []
  | [x] => x
  | x :: y :: l => x ++ sep ++ joinL sep (y :: l)
theorem joinL_nil : ∀ (l : List (List Nat)), joinL [] l = l.flatten
  | [] => rfl
  | [x] => by simp [joinL]
  | x :: y :: l => by rw [joinL, joinL_nil (y :: l)]; simp
theorem join_sx (sep : List Nat) : ∀ (l : List (List Nat)), Str.join (sx sep) (l.map sx) = sx (joinL sep l)
  | [] => rfl
  | [x] => rfl
  | x :: y :: l => by
    show sx x ++ sx sep ++ Str.join (sx sep) ((y :: l).map sx) = _; rw [join_sx sep (y :: l), sx_app, sx_app]; rfl
theorem joinOk (sep : List Nat) (l : List (List Nat)) (h : (l.map List.length).sum + l.length * sep.length <= 100000) : JoinOk (sx sep) (l.map sx) = true := by
  have key : ∀ (l : List (List Nat)) (a : Nat), (l.map sx).foldl (· + ·.length + (sx sep).length) a = a + (l.map List.length).sum + l.length * sep.length := by
    intro l
    induction l with
    | nil => intro a; simp
    | cons x l ih =>
      intro a; rw [List.map_cons, List.foldl_cons, ih, sx_len, sx_len]; simp only [List.map_cons, List.sum_cons, List.length_cons, Nat.succ_mul]; omega
  unfold JoinOk; rw [<- Array.foldl_toList, List.toList_toArray, key l 0]; unfold Builtin.Str.tooLong sizeLine; simp; omega
theorem join_den (sep : List Nat) (l : List (List Nat)) (h : (l.map List.length).sum + l.length * sep.length <= 100000) : meF .join (.str (sx sep)) [strL l] = some (.str (sx (joinL sep l))) := by
  show (match strsOf (l.map fun x => PV.str (sx x)) with | some ts => if JoinOk (sx sep) ts = true then some (PV.str (Txt.join (sx sep) ts)) else none | none => none) = _; rw [strsOf_map]; simp only; rw [if_pos (joinOk sep l h)]; congr 2; rw [<- join_sx sep l]; exact eq_of_beq (join_plain_closes _ _)
def stripped (l : List Nat) : List Nat :=
  if 34 ∈ l then (let s := sq l ⟨0, none, []⟩ (esc 0 false l); (s.acc ++ (if s.start < l.length then [l.drop s.start] else [])).flatten) else l
theorem sq_acc_len (full : List Nat) : ∀ (l : List (Nat × List Nat)) (s : SQ), (sq full s l).acc.length <= s.acc.length + l.length
  | [], s => by simp [sq]
  | x :: l, s => by
    have := sq_acc_len full l (sqStep full s x); have h2 := sq_acc full s x; show (sq full (sqStep full s x) l).acc.length <= _; simp only [List.length_cons]; omega
theorem sq_sum (full : List Nat) : ∀ (l : List (Nat × List Nat)) (s : SQ) (w : Nat), (∀ o, s.op = some o -> o <= w) -> (s.acc.map List.length).sum <= s.start -> s.start <= w -> (∀ o, s.op = some o -> s.start <= o) -> (∀ x ∈ l, w <= x.1) -> l.Pairwise (fun a b => a.1 < b.1) ->
    ((sq full s l).acc.map List.length).sum <= (sq full s l).start
  | [], s, w, _, h, _, _, _, _ => h
  | x :: l, s, w, ho, h, hs, hso, hx, hp => by
    have hx0 := hx x (by simp); have hp' := List.pairwise_cons.mp hp; show ((sq full (sqStep full s x) l).acc.map List.length).sum <= (sq full (sqStep full s x) l).start; refine sq_sum full l (sqStep full s x) (x.1 + 1) ?_ ?_ ?_ ?_ ?_ hp'.2
    · intro o h'; unfold sqStep at h'; split at h'
      · split at h'
        · cases h'; omega
        · cases h'
      · have := ho o h'; omega
    · unfold sqStep; split
      · split
        · exact h
        · rename_i o ho'; have h1 := hso o ho'; have h2 := ho o ho'; simp only; split
          · omega
          · simp only [List.map_append, List.sum_append, List.map_cons, List.map_nil, List.sum_cons, List.sum_nil, List.length_drop, List.length_take]; omega
      · exact h
    · unfold sqStep; split
      · split <;> simp only <;> omega
      · omega
    · intro o h'; unfold sqStep at h' ⊢; split at h'
      · rename_i hu; rw [if_pos hu]; split at h'
        · rename_i hn; cases h'; simp only [hn]; omega
        · cases h'
      · rename_i hu; rw [if_neg hu]; exact hso o h'
    · intro y hy; have := hp'.1 y hy; omega
theorem esc_mem : ∀ (l : List Nat) (k : Nat) (b : Bool), (∀ x ∈ esc k b l, k <= x.1 + (if b then 1 else 0)) /\ (esc k b l).Pairwise (fun a b => a.1 < b.1)
  | [], k, true => by simp [esc]; omega
  | [], k, false => by simp [esc]
  | c :: l, k, true => by
    obtain ⟨h1, h2⟩ := esc_mem l (k + 1) false; simp only [esc]; refine ⟨fun x hx => ?_, List.pairwise_cons.mpr ⟨fun y hy => ?_, h2⟩⟩
    · rcases List.mem_cons.mp hx with rfl | hx
      · simp
      · have := h1 x hx; simp at this ⊢; omega
    · have := h1 y hy; simp at this; omega
  | c :: l, k, false => by
    simp only [esc]; split
    · obtain ⟨h1, h2⟩ := esc_mem l (k + 1) true; refine ⟨fun x hx => ?_, h2⟩; have := h1 x hx; simp at this ⊢; omega
    · obtain ⟨h1, h2⟩ := esc_mem l (k + 1) false; refine ⟨fun x hx => ?_, List.pairwise_cons.mpr ⟨fun y hy => ?_, h2⟩⟩
      · rcases List.mem_cons.mp hx with rfl | hx
        · simp
        · have := h1 x hx; simp at this ⊢; omega
      · have := h1 y hy; simp at this; omega
theorem esc_len : ∀ (l : List Nat) (k : Nat) (b : Bool), (esc k b l).length <= l.length + 1
  | [], k, true => by simp [esc]
  | [], k, false => by simp [esc]
  | c :: l, k, true => by have := esc_len l (k + 1) false; simp [esc]; omega
  | c :: l, k, false => by
    simp only [esc]; split
    · have := esc_len l (k + 1) true; simp; omega
    · have := esc_len l (k + 1) false; simp; omega
theorem esc_le : ∀ (l : List Nat) (k : Nat) (b : Bool), ∀ x ∈ esc k b l, x.1 <= k + l.length
  | [], k, true, x, hx => by simp [esc] at hx; subst hx; simp
  | [], k, false, x, hx => by simp [esc] at hx
  | c :: l, k, true, x, hx => by
    simp only [esc] at hx; rcases List.mem_cons.mp hx with rfl | hx
    · simp
    · have := esc_le l (k + 1) false x hx; simp; omega
  | c :: l, k, false, x, hx => by
    simp only [esc] at hx; split at hx
    · have := esc_le l (k + 1) true x hx; simp; omega
    · rcases List.mem_cons.mp hx with rfl | hx
      · simp
      · have := esc_le l (k + 1) false x hx; simp; omega
theorem sq_start (full : List Nat) : ∀ (l : List (Nat × List Nat)) (s : SQ) (n : Nat), s.start <= n -> (∀ x ∈ l, x.1 + 1 <= n) -> (sq full s l).start <= n
  | [], s, n, h, _ => h
  | x :: l, s, n, h, hx => by
    show (sq full (sqStep full s x) l).start <= n; refine sq_start full l _ n ?_ (fun y hy => hx y (by simp [hy])); have := hx x (by simp); unfold sqStep; split
    · split
      · exact h
      · exact this
    · exact h
theorem strip_den {l : List Nat} (hl : l.length <= 9000) (ha : l.all (· < 128) = true) : denF F Co.f_strip_quoted_realnames [.str (sx l)] = some (.str (sx (stripped l))) := by
  apply fun_r rfl; show rets (denSs F Co.f_strip_quoted_realnames.code [some (.str (sx l)), none, none, none, none, none]) = _; unfold Co.f_strip_quoted_realnames; have occ : cmpF .NotIn (.str ("\"" : Str)) (.str (sx l)) = some (!decide (34 ∈ l)) := by
    show some (!(!(Builtin.Str.occurrences (sx l) ⟨#[34]⟩ 0 (sx l).length 1).isEmpty)) = _; rw [StrLaws.found_one, sx_cps]
  unfold stripped
  by_cases h34 : 34 ∈ l
  · rw [if_pos h34]; refine r_skip (by simp only [denE, denEs, denI, lk, st, EVL, occ]; simp [h34]) ?_; refine r_seq (asg (by simp only [denE, denEs, denI, lk, st, EVL]; try rfl)) ?_; refine r_seq (asg (by simp only [denE, denEs, denI, lk, st, EVL]; try rfl)) ?_; refine r_seq (asgO (l := []) (by simp only [denE, denEs, denI, lk, st, EVL]; try rfl)) ?_; simp only [st]; have hE := esc_len l 0 false; obtain ⟨p', q', hw⟩ := sq_loop (F := F) l (by omega) (esc 0 false l) ⟨0, none, []⟩ none none (by simp; omega); have hsum := sq_sum l (esc 0 false l) ⟨0, none, []⟩ 0 (by simp) (by simp) (by simp) (by simp) (by simp) (esc_mem l 0 false).2; have hacc := sq_acc_len l (esc 0 false l) ⟨0, none, []⟩; simp only [List.length_nil] at hacc; have hstart : (sq l ⟨0, none, []⟩ (esc 0 false l)).start <= l.length + 1 := sq_start l (esc 0 false l) ⟨0, none, []⟩ (l.length + 1) (by simp) (fun x hx => by have := esc_le l 0 false x hx; omega); generalize sq l ⟨0, none, []⟩ (esc 0 false l) = s at *; refine r_seq (esc_s (by simp only [denE, denEs, denI, lk, st, EVL]; try rfl) (escItems_eq (by omega) ha) hw) ?_
    by_cases hs : s.start < l.length
    · rw [if_pos hs]; refine r_seq (ite_t ?_ (seq_last (app (l := s.acc.map fun x => .str (sx x)) rfl (p := .str (sx (l.drop s.start))) ?_ (by simp; omega)))) ?_
      · simp only [denE, denEs, denI, lk, st, EVL, bi_len_s l (by omega)]; simp; omega
      · simp only [denE, denEs, denI, lk, st, EVL, partF, s_from l (s.start : Int) (by omega) (by omega), Int.toNat_natCast]
      · simp only [st]; refine r_ret ?_; rw [show ("" : Str) = sx [] from rfl]; simp only [denE, denEs, denI, lk, st, EVL]; have := join_den [] (s.acc ++ [l.drop s.start]) (by simp; omega); rw [joinL_nil] at this; simp only [strL, List.map_append, List.map_cons, List.map_nil] at this; exact this
    · rw [if_neg hs, List.append_nil]; refine r_skip ?_ ?_
      · simp only [denE, denEs, denI, lk, st, EVL, bi_len_s l (by omega)]; simp; omega
      · refine r_ret ?_; rw [show ("" : Str) = sx [] from rfl]; simp only [denE, denEs, denI, lk, st, EVL]; have := join_den [] s.acc (by simp; omega); rw [joinL_nil] at this; exact this
  · rw [if_neg h34]; refine r_ite_t (by simp only [denE, denEs, denI, lk, st, EVL, occ]; simp [h34]) (r_ret (by simp only [denE, denEs, denI, lk, st, EVL]; try rfl))
end
end Mine
end
section
open PySem PySem.W PyProof.Rows
namespace Mine
def uns : Bool -> List Nat -> List (List Nat)
  | true, [] => [[92]]
  | false, [] => []
  | true, c :: l => [92, c] :: uns false l
  | false, c :: l => if c = 92 then uns true l else [c] :: uns false l
theorem esc_snd : ∀ (l : List Nat) (k : Nat) (b : Bool), (esc k b l).map (·.2) = uns b l
  | [], k, true => rfl
  | [], k, false => rfl
  | c :: l, k, true => by simp [esc, uns, esc_snd l]
  | c :: l, k, false => by
    simp only [esc, uns]; split
    · exact esc_snd l (k + 1) true
    · simp [esc_snd l]
theorem uns_app (a b : List Nat) (h : pend false a = false) : uns false (a ++ b) = uns false a ++ uns false b := by
  have := congrArg (List.map (·.2)) (esc_app a b 0 false h); rw [List.map_append, esc_snd, esc_snd, esc_snd] at this; exact this
theorem pend_app : ∀ (a b : List Nat) (p : Bool), pend p (a ++ b) = pend (pend p a) b
  | [], b, p => by cases p <;> rfl
  | c :: a, b, true => by simp only [List.cons_append, pend]; exact pend_app a b false
  | c :: a, b, false => by simp only [List.cons_append, pend]; exact pend_app a b _
def Pl (l : List Nat) : Prop := pend false l = false /\ ∀ u ∈ uns false l, u ≠ [34]
theorem Pl.app {a b : List Nat} (ha : Pl a) (hb : Pl b) : Pl (a ++ b) := by
  refine ⟨by rw [pend_app, ha.1, hb.1], ?_⟩; rw [uns_app a b ha.1]; intro u hu; rcases List.mem_append.mp hu with h | h
  · exact ha.2 u h
  · exact hb.2 u h
theorem Pl.nil : Pl [] := ⟨rfl, by simp [uns]⟩
theorem sq_app (full : List Nat) (s : SQ) (a b : List (Nat × List Nat)) : sq full s (a ++ b) = sq full (sq full s a) b := List.foldl_append
theorem sq_plain (full : List Nat) : ∀ (l : List (Nat × List Nat)) (s : SQ), (∀ u ∈ l.map (·.2), u ≠ [34]) -> sq full s l = s
  | [], s, _ => rfl
  | x :: l, s, h => by
    have hx : x.2 ≠ [34] := h x.2 (by simp); show sq full (sqStep full s x) l = s; have : sqStep full s x = s := by unfold sqStep; rw [if_neg hx]
    rw [this]; exact sq_plain full l s fun u hu => h u (by simp at hu ⊢; exact .inr hu)
def quo (b : List Nat) : List Nat := 34 :: (b ++ [34])
theorem quo_len (b : List Nat) : (quo b).length = b.length + 2 := by simp [quo]
theorem quo_pend {b : List Nat} (h : pend false b = false) : pend false (quo b) = false := by
  unfold quo; show pend false ((34 : Nat) :: (b ++ [34])) = false; show pend ((34 : Nat) == 92) (b ++ [34]) = false; rw [show ((34 : Nat) == 92) = false from rfl, pend_app, h]; rfl
theorem quo_esc {b : List Nat} (h : pend false b = false) (k : Nat) : esc k false (quo b) = (k, [34]) :: (esc (k + 1) false b ++ [(k + 1 + b.length, [34])]) := by
  unfold quo; simp only [esc]; rw [if_neg (by decide), esc_app b [34] (k + 1) false h]; simp [esc]
theorem sq_quo (full : List Nat) {b : List Nat} (hb : Pl b) (k start : Nat) (acc : List (List Nat)) :
    sq full ⟨start, none, acc⟩ (esc k false (quo b)) = ⟨k + (quo b).length, none, if start = k then acc else acc ++ [(full.take k).drop start]⟩ := by
  rw [quo_esc hb.1]; show sq full (sqStep full ⟨start, none, acc⟩ (k, [34])) _ = _; have h1 : sqStep full ⟨start, none, acc⟩ (k, [34]) = ⟨start, some k, acc⟩ := by unfold sqStep; simp
  rw [h1, sq_app, sq_plain full (esc (k + 1) false b) _ (by rw [esc_snd]; exact hb.2)]; show sqStep full ⟨start, some k, acc⟩ (k + 1 + b.length, [34]) = _; unfold sqStep; simp only [if_true, quo_len]; congr 1; omega
def segT (segs : List (List Nat × List Nat)) (last : List Nat) : List Nat := (segs.map fun x => x.1 ++ quo x.2).flatten ++ last
def LastOk (l : List Nat) : Prop := (∀ u ∈ uns false l, u ≠ [34]) \/ ∃ p q, l = p ++ 34 :: q /\ Pl p /\ ∀ u ∈ uns false q, u ≠ [34]
theorem sq_last (full : List Nat) {l : List Nat} (h : LastOk l) (k start : Nat) (acc : List (List Nat)) : (sq full ⟨start, none, acc⟩ (esc k false l)).start = start /\ (sq full ⟨start, none, acc⟩ (esc k false l)).acc = acc := by
  rcases h with h | ⟨p, q, rfl, hp, hq⟩
  · rw [sq_plain full _ _ (by rw [esc_snd]; exact h)]; exact ⟨rfl, rfl⟩
  · rw [esc_app _ _ _ _ hp.1, sq_app, sq_plain full (esc k false p) _ (by rw [esc_snd]; exact hp.2)]; simp only [esc]; rw [if_neg (by decide)]; show (sq full (sqStep full ⟨start, none, acc⟩ (k + p.length, [34])) _).start = _ /\ (sq full (sqStep full ⟨start, none, acc⟩ (k + p.length, [34])) _).acc = _; rw [sq_plain full (esc (k + p.length + 1) false q) _ (by rw [esc_snd]; exact hq)]; unfold sqStep; simp
theorem segs_go (full : List Nat) : ∀ (segs : List (List Nat × List Nat)) (last pre : List Nat) (acc : List (List Nat)), full = pre ++ segT segs last -> (∀ x ∈ segs, Pl x.1 /\ Pl x.2) -> LastOk last ->
    ((sq full ⟨pre.length, none, acc⟩ (esc pre.length false (segT segs last))).acc ++ (if (sq full ⟨pre.length, none, acc⟩ (esc pre.length false (segT segs last))).start < full.length then [full.drop (sq full ⟨pre.length, none, acc⟩ (esc pre.length false (segT segs last))).start] else [])).flatten = acc.flatten ++ (segs.map (·.1)).flatten ++ last
  | [], last, pre, acc, hf, _, hl => by
    have e : segT [] last = last := by simp [segT]
    rw [e] at hf ⊢; obtain ⟨h1, h2⟩ := sq_last full hl pre.length pre.length acc; rw [h1, h2, hf]
    by_cases h0 : last = []
    · subst h0; simp
    · have : pre.length < (pre ++ last).length := by
        have := List.length_pos_iff.mpr h0; simp; omega
      rw [if_pos this]; simp
  | (s, b) :: segs, last, pre, acc, hf, hs, hl => by
    obtain ⟨p1, p2⟩ := hs (s, b) (by simp); have e : segT ((s, b) :: segs) last = s ++ (quo b ++ segT segs last) := by simp [segT]
    rw [e] at hf ⊢; have hk : esc pre.length false (s ++ (quo b ++ segT segs last)) = esc pre.length false s ++ (esc (pre.length + s.length) false (quo b) ++ esc (pre ++ s ++ quo b).length false (segT segs last)) := by
      rw [esc_app _ _ _ _ p1.1, esc_app _ _ _ _ (quo_pend p2.1)]; congr 3; simp; omega
    rw [hk, sq_app, sq_plain full (esc pre.length false s) _ (by rw [esc_snd]; exact p1.2), sq_app, sq_quo full p2]; have hlen : pre.length + s.length + (quo b).length = (pre ++ s ++ quo b).length := by simp; omega
    rw [hlen]; rw [segs_go full segs last (pre ++ s ++ quo b) _ (by rw [hf]; simp) (fun x hx => hs x (by simp [hx])) hl]
    by_cases h0 : pre.length = pre.length + s.length
    · have : s = [] := List.eq_nil_of_length_eq_zero (by omega); subst this; simp
    · rw [if_neg h0]; have : (full.take (pre.length + s.length)).drop pre.length = s := by
        rw [hf]; rw [show pre ++ (s ++ (quo b ++ segT segs last)) = (pre ++ s) ++ (quo b ++ segT segs last) by simp, show pre.length + s.length = (pre ++ s).length by simp, List.take_left]; simp
      rw [this]; simp
theorem stripped_segs (segs : List (List Nat × List Nat)) (last : List Nat) (hs : ∀ x ∈ segs, Pl x.1 /\ Pl x.2) (hl : LastOk last) : stripped (segT segs last) = (segs.map (·.1)).flatten ++ last := by
  unfold stripped
  by_cases h : 34 ∈ segT segs last
  · rw [if_pos h]; have := segs_go (segT segs last) segs last [] [] (by simp) hs hl
    simpa using this
  · rw [if_neg h]; cases segs with
    | nil => simp [segT]
    | cons x segs => exfalso; apply h; simp [segT, quo]
def par : Nat -> List (List Nat) -> Option Nat
  | o, [] => some o
  | o, u :: us => if u = [40] then par (o + 1) us else if u = [41] then (if o = 0 then none else par (o - 1) us) else par o us
theorem par_app : ∀ (a b : List (List Nat)) (o : Nat), par o (a ++ b) = (par o a).bind fun o' => par o' b
  | [], b, o => rfl
  | u :: a, b, o => by
    simp only [List.cons_append, par]; split
    · exact par_app a b _
    · split
      · split
        · rfl
        · exact par_app a b _
      · exact par_app a b _
section
variable {F : Nat -> List PV -> Option PV}
theorem par_loop (x : PV) : ∀ (l : List (Nat × List Nat)) (o : Nat) (p q : Option PV),
    (∃ p' q' o', par o (l.map (·.2)) = some o' /\ forF (denSs F (.cons (.ite (.cmp .Eq (.var 3) (.cst (.str ("(" : Str)))) (.cons (.aug 1 .Add (.cst (.int 1))) .nil) (.cons (.ite (.cmp .Eq (.var 3) (.cst (.str (")" : Str)))) (.cons (.aug 1 .Sub (.cst (.int 1))) (.cons (.ite (.cmp .Lt (.var 1) (.cst (.int 0))) (.cons (.ret (.cst (.bool false))) .nil) .nil) .nil)) .nil) .nil)) .nil)) [2, 3] (l.map itm) [some x, some (.int (o : Int)), p, q] =
      some ([some x, some (.int (o' : Int)), p', q'], .next)) \/
    (par o (l.map (·.2)) = none /\ ∃ pe, forF (denSs F (.cons (.ite (.cmp .Eq (.var 3) (.cst (.str ("(" : Str)))) (.cons (.aug 1 .Add (.cst (.int 1))) .nil) (.cons (.ite (.cmp .Eq (.var 3) (.cst (.str (")" : Str)))) (.cons (.aug 1 .Sub (.cst (.int 1))) (.cons (.ite (.cmp .Lt (.var 1) (.cst (.int 0))) (.cons (.ret (.cst (.bool false))) .nil) .nil) .nil)) .nil) .nil)) .nil)) [2, 3] (l.map itm) [some x, some (.int (o : Int)), p, q] =
      some (pe, .ret (.bool false)))
  | [], o, p, q => .inl ⟨p, q, o, rfl, rfl⟩
  | (k, u) :: l, o, p, q => by
    rw [show ("(" : Str) = sx [40] from rfl, show (")" : Str) = sx [41] from rfl]; simp only [List.map_cons, par]; have fact40 : denE F (.cmp .Eq (.var 3) (.cst (.str (sx [40])))) [some x, some (.int (o : Int)), some (.int (k : Int)), some (.str (sx u))] = some (.bool (u == [40])) := by simp only [denE, denEs, denI, lk, st, EVL, c_eq_ss]
    have fact41 : denE F (.cmp .Eq (.var 3) (.cst (.str (sx [41])))) [some x, some (.int (o : Int)), some (.int (k : Int)), some (.str (sx u))] = some (.bool (u == [41])) := by simp only [denE, denEs, denI, lk, st, EVL, c_eq_ss]
    by_cases h40 : u = [40]
    · rw [if_pos h40]; have b40 : (u == [40]) = true := by simp [h40]
      rw [b40] at fact40; rcases par_loop x l (o + 1) (some (.int (k : Int))) (some (.str (sx u))) with ⟨p', q', o', h1, h2⟩ | ⟨h1, pe, h2⟩
      · exact .inl ⟨p', q', o', h1, for_next rfl (seq_last (ite_t fact40 (seq_last (aug rfl rfl rfl)))) h2⟩
      · exact .inr ⟨h1, pe, for_next rfl (seq_last (ite_t fact40 (seq_last (aug rfl rfl rfl)))) h2⟩
    · rw [if_neg h40]; have b40 : (u == [40]) = false := by simpa using h40
      rw [b40] at fact40
      by_cases h41 : u = [41]
      · rw [if_pos h41]; have b41 : (u == [41]) = true := by simp [h41]
        rw [b41] at fact41
        by_cases ho : o = 0
        · rw [if_pos ho]; subst ho; refine .inr ⟨rfl, ?_⟩; refine ⟨_, for_ret rfl (seq_out (ite_f fact40 (seq_out (ite_t fact41 (seq (aug rfl rfl rfl) (seq_out (ite_t ?_ (seq_ret rfl)) (by simp)))) (by simp))) (by simp))⟩; rfl
        · rw [if_neg ho]; have step : denSs F (.cons (.ite (.cmp .Eq (.var 3) (.cst (.str (sx [40])))) (.cons (.aug 1 .Add (.cst (.int 1))) .nil) (.cons (.ite (.cmp .Eq (.var 3) (.cst (.str (sx [41])))) (.cons (.aug 1 .Sub (.cst (.int 1))) (.cons (.ite (.cmp .Lt (.var 1) (.cst (.int 0))) (.cons (.ret (.cst (.bool false))) .nil) .nil) .nil)) .nil) .nil)) .nil)
              [some x, some (.int (o : Int)), some (.int (k : Int)), some (.str (sx u))] = some ([some x, some (.int ((o - 1 : Nat) : Int)), some (.int (k : Int)), some (.str (sx u))], .next) := by
            refine seq_last (ite_f fact40 (seq_last (ite_t fact41 (seq (aug rfl rfl rfl) (seq_last ?_))))); simp only [st]; rw [show ((o : Int) - 1) = ((o - 1 : Nat) : Int) by omega]; refine ite_f ?_ seq_nil; simp only [denE, denEs, denI, lk, st, EVL]; simp
          rcases par_loop x l (o - 1) (some (.int (k : Int))) (some (.str (sx u))) with ⟨p', q', o', h1, h2⟩ | ⟨h1, pe, h2⟩
          · exact .inl ⟨p', q', o', h1, for_next rfl step h2⟩
          · exact .inr ⟨h1, pe, for_next rfl step h2⟩
      · rw [if_neg h41]; have b41 : (u == [41]) = false := by simpa using h41
        rw [b41] at fact41; rcases par_loop x l o (some (.int (k : Int))) (some (.str (sx u))) with ⟨p', q', o', h1, h2⟩ | ⟨h1, pe, h2⟩
        · exact .inl ⟨p', q', o', h1, for_next rfl (seq_last (ite_f fact40 (seq_last (ite_f fact41 seq_nil)))) h2⟩
        · exact .inr ⟨h1, pe, for_next rfl (seq_last (ite_f fact40 (seq_last (ite_f fact41 seq_nil)))) h2⟩
def parOk (l : List Nat) : Bool := par 0 (uns false l) == some 0
theorem check_den {k : Nat} {l r : List Nat} (hF : F k [.str (sx l)] = some (.str (sx r))) (hr : r.length <= 9000) (ha : r.all (· < 128) = true) : denF F (Co.f_check_parenthesis k) [.str (sx l)] = some (.bool (parOk r)) := by
  apply fun_r rfl; show rets (denSs F (Co.f_check_parenthesis k).code [some (.str (sx l)), none, none, none]) = _; unfold Co.f_check_parenthesis; refine r_seq (asg (by simp only [denE, denEs, denI, lk, st, EVL, hF]; try rfl)) ?_; refine r_seq (asg (by simp only [denE, denEs, denI, lk, st, EVL]; try rfl)) ?_; simp only [st]; unfold parOk; rw [<- esc_snd r 0 false]; rcases par_loop (F := F) (.str (sx r)) (esc 0 false r) 0 none none with ⟨p', q', o', h1, h2⟩ | ⟨h1, pe, h2⟩
  · refine r_seq (esc_s (by simp only [denE, denEs, denI, lk, st, EVL]; try rfl) (escItems_eq (by omega) ha) h2) ?_; refine r_ret ?_; simp only [denE, denEs, denI, lk, st, EVL]; rw [h1]; congr 2; rw [Bool.eq_iff_iff]; simp
  · refine r_out ?_; rw [show ((0 : Nat) : Int) = 0 from rfl] at h2; rw [esc_s (e := .var 0) (p := .str (sx r)) rfl (escItems_eq (by omega) ha) h2, h1]; rfl
end
end Mine
end
section
open PySem PySem.W PyProof.Rows
namespace Mine
abbrev Pc := List Nat × Bool
def flatP : List Pc -> List Nat
  | [] => []
  | (s, false) :: l => s ++ flatP l
  | (b, true) :: l => quo b ++ flatP l
def bareP : List Pc -> List Nat
  | [] => []
  | (s, false) :: l => s ++ bareP l
  | (_, true) :: l => bareP l
theorem flatP_app : ∀ a b : List Pc, flatP (a ++ b) = flatP a ++ flatP b
  | [], b => rfl
  | (s, false) :: a, b => by simp [flatP, flatP_app a b]
  | (s, true) :: a, b => by simp [flatP, flatP_app a b]
theorem bareP_app : ∀ a b : List Pc, bareP (a ++ b) = bareP a ++ bareP b
  | [], b => rfl
  | (s, false) :: a, b => by simp [bareP, bareP_app a b]
  | (s, true) :: a, b => by simp [bareP, bareP_app a b]
def PcsOk (l : List Pc) : Prop := ∀ p ∈ l, Pl p.1
theorem bare_pl : ∀ {l : List Pc}, PcsOk l -> Pl (bareP l)
  | [], _ => Pl.nil
  | (s, false) :: l, h => Pl.app (h (s, false) (by simp)) (bare_pl fun p hp => h p (by simp [hp]))
  | (s, true) :: l, h => by
    have := bare_pl (l := l) fun p hp => h p (by simp [hp])
    simpa [bareP] using this
def segsOf : List Pc -> List (List Nat × List Nat) × List Nat
  | [] => ([], [])
  | (s, false) :: l => match segsOf l with
    | ([], t) => ([], s ++ t)
    | ((s', b) :: r, t) => ((s ++ s', b) :: r, t)
  | (b, true) :: l => (([], b) :: (segsOf l).1, (segsOf l).2)
theorem segsOf_spec : ∀ (l : List Pc) (last : List Nat), PcsOk l -> flatP l ++ last = segT (segsOf l).1 ((segsOf l).2 ++ last) /\ bareP l = ((segsOf l).1.map (·.1)).flatten ++ (segsOf l).2 /\ (∀ x ∈ (segsOf l).1, Pl x.1 /\ Pl x.2) /\ Pl (segsOf l).2
  | [], last, _ => ⟨by simp [flatP, segsOf, segT], by simp [bareP, segsOf], by simp [segsOf], Pl.nil⟩
  | (s, false) :: l, last, h => by
    obtain ⟨h1, h2, h3, h4⟩ := segsOf_spec l last fun p hp => h p (by simp [hp]); have hs : Pl s := h (s, false) (by simp); simp only [flatP, bareP, segsOf]; rw [List.append_assoc, h1, h2]; rcases he : segsOf l with ⟨sg, t⟩; rw [he] at h3 h4; cases sg with
    | nil => simp only [segT] at *; exact ⟨by simp, by simp, by simp, hs.app h4⟩
    | cons x r =>
      obtain ⟨s', b⟩ := x; simp only [segT] at *; refine ⟨by simp, by simp, ?_, h4⟩; intro y hy; rcases List.mem_cons.mp hy with rfl | hy
      · have := h3 (s', b) (by simp); exact ⟨hs.app this.1, this.2⟩
      · exact h3 y (by simp [hy])
  | (b, true) :: l, last, h => by
    obtain ⟨h1, h2, h3, h4⟩ := segsOf_spec l last fun p hp => h p (by simp [hp]); have hb : Pl b := h (b, true) (by simp); simp only [flatP, bareP, segsOf]; rw [List.append_assoc, h1, h2]; refine ⟨by simp [segT], by simp, ?_, h4⟩; intro y hy; rcases List.mem_cons.mp hy with rfl | hy
    · exact ⟨Pl.nil, hb⟩
    · exact h3 y hy
theorem LastOk.pre {a l : List Nat} (ha : Pl a) (h : LastOk l) : LastOk (a ++ l) := by
  rcases h with h | ⟨p, q, rfl, hp, hq⟩
  · left; rw [uns_app a l ha.1]; intro u hu; rcases List.mem_append.mp hu with hu | hu
    · exact ha.2 u hu
    · exact h u hu
  · exact .inr ⟨a ++ p, q, by simp, ha.app hp, hq⟩
theorem strip_pcs {l : List Pc} {last : List Nat} (h : PcsOk l) (hl : LastOk last) : stripped (flatP l ++ last) = bareP l ++ last := by
  obtain ⟨h1, h2, h3, h4⟩ := segsOf_spec l last h; rw [h1, stripped_segs _ _ h3 (hl.pre h4), h2]; simp
theorem uns_flat : ∀ (l : List Nat) (b : Bool), (uns b l).flatten = (if b then [92] else []) ++ l
  | [], true => rfl
  | [], false => rfl
  | c :: l, true => by simp [uns, uns_flat l false]
  | c :: l, false => by
    simp only [uns]; split
    · rename_i h; rw [uns_flat l true, h]; simp
    · simp [uns_flat l false]
def PosOk : Nat -> List (Nat × List Nat) -> Prop
  | _, [] => True
  | k, (p, u) :: r => p + 1 = k + u.length /\ PosOk (k + u.length) r
theorem posOk : ∀ (l : List Nat) (k : Nat) (b : Bool), (b = true -> 0 < k) -> PosOk (if b then k - 1 else k) (esc k b l)
  | [], k, true, h => by have := h rfl; simp [esc, PosOk]
  | [], k, false, _ => trivial
  | c :: l, k, true, h => by
    have := h rfl; simp only [esc, PosOk, if_true]; refine ⟨by simp; omega, ?_⟩; have := posOk l (k + 1) false (by simp); simp only [Bool.false_eq_true, if_false] at this; rw [show k - 1 + [92, c].length = k + 1 by simp; omega]; exact this
  | c :: l, k, false, _ => by
    simp only [esc, Bool.false_eq_true, if_false]
    by_cases hc : c = 92
    · rw [if_pos hc]; have := posOk l (k + 1) true (by simp)
      simpa using this
    · rw [if_neg hc]; have := posOk l (k + 1) false (by simp); simp only [Bool.false_eq_true, if_false] at this; exact ⟨by simp, by simpa using this⟩
theorem idx_one {X Y : List Nat} {c : Nat} (hX : c ∉ X) (hY : c ∉ Y) (hl : (X ++ c :: Y).length <= 100000) : meF .index (.str (sx (X ++ c :: Y))) [.str (sx [c])] = some (.int (X.length : Int)) := by
  show (match Builtin.Str.occurrences (sx (X ++ c :: Y)) ⟨#[c]⟩ 0 (sx (X ++ c :: Y)).length 1 with | i :: _ => some (PV.int (i : Int)) | [] => none) = _; have hne : (!(Builtin.Str.occurrences (sx (X ++ c :: Y)) ⟨#[c]⟩ 0 (sx (X ++ c :: Y)).length 1).isEmpty) = true := by
    rw [StrLaws.found_one, sx_cps]; simp
  have hsp := StrLaws.occ_spec (sx (X ++ c :: Y)) ⟨#[c]⟩ 0 (sx (X ++ c :: Y)).length 1; generalize Builtin.Str.occurrences (sx (X ++ c :: Y)) ⟨#[c]⟩ 0 (sx (X ++ c :: Y)).length 1 = o at *; cases o with
  | nil => simp at hne
  | cons i r =>
    have h1 := hsp i (by simp); have h2 := (StrLaws.subAt_one _ c i).mp h1; rw [sx_cps] at h2; have : i = X.length := by
      rcases Nat.lt_trichotomy i X.length with h | h | h
      · rw [List.getElem?_append_left h] at h2; exact absurd (List.mem_of_getElem? h2) hX
      · exact h
      · rw [List.getElem?_append_right (by omega)] at h2; have e : i - X.length = (i - X.length - 1) + 1 := by omega
        rw [e, List.getElem?_cons_succ] at h2; exact absurd (List.mem_of_getElem? h2) hY
    rw [this]
end Mine
end
section
open PySem PySem.W PyProof.Rows
namespace Mine
def hue6 (r g b M D : UInt64) : UInt64 :=
  if eqB r M then Float64.sub (Float64.div (Float64.sub M b) D) (Float64.div (Float64.sub M g) D)
  else if eqB g M then Float64.sub (Float64.add 0x4000000000000000 (Float64.div (Float64.sub M r) D)) (Float64.div (Float64.sub M b) D)
  else Float64.sub (Float64.add 0x4010000000000000 (Float64.div (Float64.sub M g) D)) (Float64.div (Float64.sub M r) D)
theorem z6 : Float64.isZero 0x4018000000000000 = false := by decide +kernel
theorem z1 : Float64.isZero 0x3ff0000000000000 = false := by decide +kernel
theorem z2 : Float64.isZero 0x4000000000000000 = false := by decide +kernel
theorem one_lit : Float64.one = 0x3ff0000000000000 := by decide +kernel
variable {F : Nat -> List PV -> Option PV} {r g b : UInt64}
theorem hsv_eq (h : eqB (mn3 r g b) (mx3 r g b) = true) :
    denF F Co.f_rgb_to_hsv [.flt r, .flt g, .flt b] = some (.tup [.flt 0, .flt 0, .flt (mx3 r g b)]) := by
  apply fun_ret rfl; show denSs F Co.f_rgb_to_hsv.code [some (.flt r), some (.flt g), some (.flt b), none, none, none, none, none, none, none, none, none] = _; unfold Co.f_rgb_to_hsv; refine seq (asg (by simp only [denE, denEs, denI, lk, st, EVL]; try rfl)) ?_; refine seq (asg (by simp only [denE, denEs, denI, lk, st, EVL]; try rfl)) ?_; refine seq (asg (by simp only [denE, denEs, denI, lk, st, EVL]; try rfl)) ?_; refine seq (asg (by simp only [denE, denEs, denI, lk, st, EVL]; try rfl)) ?_; refine seq_out (ite_t (by simp only [denE, denEs, denI, lk, st, EVL, h]) (seq_ret (by simp only [denE, denEs, denI, lk, st, EVL]; try rfl))) (by simp)
theorem hsv_ne (h : eqB (mn3 r g b) (mx3 r g b) = false) (hM : Float64.isZero (mx3 r g b) = false) (hD : Float64.isZero (Float64.sub (mx3 r g b) (mn3 r g b)) = false) :
    denF F Co.f_rgb_to_hsv [.flt r, .flt g, .flt b] = some (.tup [.flt (Float64.divmod (Float64.div (hue6 r g b (mx3 r g b) (Float64.sub (mx3 r g b) (mn3 r g b))) 0x4018000000000000) Float64.one).2,
      .flt (Float64.div (Float64.sub (mx3 r g b) (mn3 r g b)) (mx3 r g b)), .flt (mx3 r g b)]) := by
  rw [one_lit]; apply fun_ret rfl; show denSs F Co.f_rgb_to_hsv.code [some (.flt r), some (.flt g), some (.flt b), none, none, none, none, none, none, none, none, none] = _; unfold Co.f_rgb_to_hsv; refine seq (asg (by simp only [denE, denEs, denI, lk, st, EVL]; try rfl)) ?_; refine seq (asg (by simp only [denE, denEs, denI, lk, st, EVL]; try rfl)) ?_; refine seq (asg (by simp only [denE, denEs, denI, lk, st, EVL]; try rfl)) ?_; refine seq (asg (by simp only [denE, denEs, denI, lk, st, EVL]; try rfl)) ?_; refine seq (ite_f (by simp only [denE, denEs, denI, lk, st, EVL, h]) seq_nil) ?_; refine seq (asg (by simp only [denE, denEs, denI, lk, st, EVL, b_div_ff _ _ hM]; try rfl)) ?_; refine seq (asg (by simp only [denE, denEs, denI, lk, st, EVL, b_div_ff _ _ hD]; try rfl)) ?_; refine seq (asg (by simp only [denE, denEs, denI, lk, st, EVL, b_div_ff _ _ hD]; try rfl)) ?_; refine seq (asg (by simp only [denE, denEs, denI, lk, st, EVL, b_div_ff _ _ hD]; try rfl)) ?_; simp only [st]; have key : ∀ N M D hh : UInt64, hue6 r g b M D = hh -> denS F (.ite (.cmp .Eq (.var 0) (.var 3)) (.cons (.asg 11 (.bin .Sub (.var 10) (.var 9))) .nil) (.cons (.ite (.cmp .Eq (.var 1) (.var 3)) (.cons (.asg 11 (.bin .Sub (.bin .Add (.cst (.flt 0x4000000000000000)) (.var 8)) (.var 10))) .nil) (.cons (.asg 11 (.bin .Sub (.bin .Add (.cst (.flt 0x4010000000000000)) (.var 9)) (.var 8))) .nil)) .nil))
      [some (.flt r), some (.flt g), some (.flt b), some (.flt M), some (.flt N), some (.flt D), some (.flt M), some (.flt (Float64.div D M)), some (.flt (Float64.div (Float64.sub M r) D)), some (.flt (Float64.div (Float64.sub M g) D)), some (.flt (Float64.div (Float64.sub M b) D)), none] =
      some ([some (.flt r), some (.flt g), some (.flt b), some (.flt M), some (.flt N), some (.flt D), some (.flt M), some (.flt (Float64.div D M)), some (.flt (Float64.div (Float64.sub M r) D)), some (.flt (Float64.div (Float64.sub M g) D)), some (.flt (Float64.div (Float64.sub M b) D)), some (.flt hh)], .next) := by
    intro N M D hh e; refine ite_b (c := eqB r M) (by simp only [denE, denEs, denI, lk, st, EVL]) (fun c => ?_) (fun c => ?_)
    · refine seq_last ?_; have : hh = Float64.sub (Float64.div (Float64.sub M b) D) (Float64.div (Float64.sub M g) D) := by rw [<- e]; unfold hue6; rw [if_pos c]
      subst this; exact asg (by simp only [denE, denEs, denI, lk, st, EVL]; try rfl)
    · refine seq_last (ite_b (c := eqB g M) (by simp only [denE, denEs, denI, lk, st, EVL]) (fun c' => ?_) (fun c' => ?_))
      · refine seq_last ?_; have : hh = Float64.sub (Float64.add 0x4000000000000000 (Float64.div (Float64.sub M r) D)) (Float64.div (Float64.sub M b) D) := by rw [<- e]; unfold hue6; rw [if_neg (by simp [c]), if_pos c']
        subst this; exact asg (by simp only [denE, denEs, denI, lk, st, EVL]; try rfl)
      · refine seq_last ?_; have : hh = Float64.sub (Float64.add 0x4010000000000000 (Float64.div (Float64.sub M g) D)) (Float64.div (Float64.sub M r) D) := by rw [<- e]; unfold hue6; rw [if_neg (by simp [c]), if_neg (by simp [c'])]
        subst this; exact asg (by simp only [denE, denEs, denI, lk, st, EVL]; try rfl)
  refine seq (key _ _ _ _ rfl) ?_; refine seq (asg (by simp only [denE, denEs, denI, lk, st, EVL, b_div_ff _ _ z6, b_mod_ff _ _ z1]; try rfl)) ?_; exact seq_ret (by simp only [denE, denEs, denI, lk, st, EVL]; try rfl)
end Mine
end
section
open PySem PySem.W PyProof.Rows
namespace Mine
variable {F : Nat -> List PV -> Option PV} {r g b h s v l : UInt64}
def leB (a b : UInt64) : Bool := ltB a b || eqB a b
theorem hls_eq (h : eqB (mn3 r g b) (mx3 r g b) = true) :
    denF F Co.f_rgb_to_hls [.flt r, .flt g, .flt b] = some (.tup [.flt 0, .flt (Float64.div (Float64.add (mx3 r g b) (mn3 r g b)) 0x4000000000000000), .flt 0]) := by
  apply fun_ret rfl; show denSs F Co.f_rgb_to_hls.code [some (.flt r), some (.flt g), some (.flt b), none, none, none, none, none, none, none, none, none, none] = _; unfold Co.f_rgb_to_hls; refine seq (asg (by simp only [denE, denEs, denI, lk, st, EVL]; try rfl)) ?_; refine seq (asg (by simp only [denE, denEs, denI, lk, st, EVL]; try rfl)) ?_; refine seq (asg (by simp only [denE, denEs, denI, lk, st, EVL]; try rfl)) ?_; refine seq (asg (by simp only [denE, denEs, denI, lk, st, EVL]; try rfl)) ?_; refine seq (asg (by simp only [denE, denEs, denI, lk, st, EVL, b_div_ff _ _ z2]; try rfl)) ?_; refine seq_out (ite_t (by simp only [denE, denEs, denI, lk, st, EVL, h]) (seq_ret (by simp only [denE, denEs, denI, lk, st, EVL]; try rfl))) (by simp)
def hlsS (M N D l : UInt64) : UInt64 := if leB l 0x3fe0000000000000 then Float64.div D (Float64.add M N) else Float64.div D (Float64.sub (Float64.sub 0x4000000000000000 M) N)
theorem hls_ne (h : eqB (mn3 r g b) (mx3 r g b) = false) (hD : Float64.isZero (Float64.sub (mx3 r g b) (mn3 r g b)) = false)
    (hs1 : leB (Float64.div (Float64.add (mx3 r g b) (mn3 r g b)) 0x4000000000000000) 0x3fe0000000000000 = true -> Float64.isZero (Float64.add (mx3 r g b) (mn3 r g b)) = false)
    (hs2 : leB (Float64.div (Float64.add (mx3 r g b) (mn3 r g b)) 0x4000000000000000) 0x3fe0000000000000 = false -> Float64.isZero (Float64.sub (Float64.sub 0x4000000000000000 (mx3 r g b)) (mn3 r g b)) = false) :
    denF F Co.f_rgb_to_hls [.flt r, .flt g, .flt b] = some (.tup [.flt (Float64.divmod (Float64.div (hue6 r g b (mx3 r g b) (Float64.sub (mx3 r g b) (mn3 r g b))) 0x4018000000000000) Float64.one).2,
      .flt (Float64.div (Float64.add (mx3 r g b) (mn3 r g b)) 0x4000000000000000), .flt (hlsS (mx3 r g b) (mn3 r g b) (Float64.sub (mx3 r g b) (mn3 r g b)) (Float64.div (Float64.add (mx3 r g b) (mn3 r g b)) 0x4000000000000000))]) := by
  rw [one_lit]; apply fun_ret rfl; show denSs F Co.f_rgb_to_hls.code [some (.flt r), some (.flt g), some (.flt b), none, none, none, none, none, none, none, none, none, none] = _; unfold Co.f_rgb_to_hls; refine seq (asg (by simp only [denE, denEs, denI, lk, st, EVL]; try rfl)) ?_; refine seq (asg (by simp only [denE, denEs, denI, lk, st, EVL]; try rfl)) ?_; refine seq (asg (by simp only [denE, denEs, denI, lk, st, EVL]; try rfl)) ?_; refine seq (asg (by simp only [denE, denEs, denI, lk, st, EVL]; try rfl)) ?_; refine seq (asg (by simp only [denE, denEs, denI, lk, st, EVL, b_div_ff _ _ z2]; try rfl)) ?_; refine seq (ite_f (by simp only [denE, denEs, denI, lk, st, EVL, h]) seq_nil) ?_; simp only [st]; have key0 : ∀ N M S D l ss : UInt64, hlsS M N D l = ss -> S = Float64.add M N -> (leB l 0x3fe0000000000000 = true -> Float64.isZero (Float64.add M N) = false) -> (leB l 0x3fe0000000000000 = false -> Float64.isZero (Float64.sub (Float64.sub 0x4000000000000000 M) N) = false) ->
      denS F (.ite (.cmp .LtE (.var 7) (.cst (.flt 0x3fe0000000000000))) (.cons (.asg 8 (.bin .Div (.var 6) (.var 5))) .nil) (.cons (.asg 8 (.bin .Div (.var 6) (.bin .Sub (.bin .Sub (.cst (.flt 0x4000000000000000)) (.var 3)) (.var 4)))) .nil))
      [some (.flt r), some (.flt g), some (.flt b), some (.flt M), some (.flt N), some (.flt S), some (.flt D), some (.flt l), none, none, none, none, none] =
      some ([some (.flt r), some (.flt g), some (.flt b), some (.flt M), some (.flt N), some (.flt S), some (.flt D), some (.flt l), some (.flt ss), none, none, none, none], .next) := by
    intro N M S D l ss e1 e2 e3 e4; subst e2; refine ite_b (c := leB l 0x3fe0000000000000) (by simp only [denE, denEs, denI, lk, st, EVL]; rfl) (fun c => ?_) (fun c => ?_)
    · refine seq_last ?_; have : ss = Float64.div D (Float64.add M N) := by rw [<- e1]; unfold hlsS; rw [if_pos c]
      subst this; exact asg (by simp only [denE, denEs, denI, lk, st, EVL, b_div_ff _ _ (e3 c)]; try rfl)
    · refine seq_last ?_; have : ss = Float64.div D (Float64.sub (Float64.sub 0x4000000000000000 M) N) := by rw [<- e1]; unfold hlsS; rw [if_neg (by simp [c])]
      subst this; exact asg (by simp only [denE, denEs, denI, lk, st, EVL, b_div_ff _ _ (e4 c)]; try rfl)
  refine seq (key0 _ _ _ _ _ _ rfl rfl hs1 hs2) ?_; refine seq (asg (by simp only [denE, denEs, denI, lk, st, EVL, b_div_ff _ _ hD]; try rfl)) ?_; refine seq (asg (by simp only [denE, denEs, denI, lk, st, EVL, b_div_ff _ _ hD]; try rfl)) ?_; refine seq (asg (by simp only [denE, denEs, denI, lk, st, EVL, b_div_ff _ _ hD]; try rfl)) ?_; simp only [st]; have key : ∀ N M S D l ss hh : UInt64, hue6 r g b M D = hh -> denS F (.ite (.cmp .Eq (.var 0) (.var 3)) (.cons (.asg 12 (.bin .Sub (.var 11) (.var 10))) .nil) (.cons (.ite (.cmp .Eq (.var 1) (.var 3)) (.cons (.asg 12 (.bin .Sub (.bin .Add (.cst (.flt 0x4000000000000000)) (.var 9)) (.var 11))) .nil) (.cons (.asg 12 (.bin .Sub (.bin .Add (.cst (.flt 0x4010000000000000)) (.var 10)) (.var 9))) .nil)) .nil))
      [some (.flt r), some (.flt g), some (.flt b), some (.flt M), some (.flt N), some (.flt S), some (.flt D), some (.flt l), some (.flt ss), some (.flt (Float64.div (Float64.sub M r) D)), some (.flt (Float64.div (Float64.sub M g) D)), some (.flt (Float64.div (Float64.sub M b) D)), none] =
      some ([some (.flt r), some (.flt g), some (.flt b), some (.flt M), some (.flt N), some (.flt S), some (.flt D), some (.flt l), some (.flt ss), some (.flt (Float64.div (Float64.sub M r) D)), some (.flt (Float64.div (Float64.sub M g) D)), some (.flt (Float64.div (Float64.sub M b) D)), some (.flt hh)], .next) := by
    intro N M S D l ss hh e; refine ite_b (c := eqB r M) (by simp only [denE, denEs, denI, lk, st, EVL]) (fun c => ?_) (fun c => ?_)
    · refine seq_last ?_; have : hh = Float64.sub (Float64.div (Float64.sub M b) D) (Float64.div (Float64.sub M g) D) := by rw [<- e]; unfold hue6; rw [if_pos c]
      subst this; exact asg (by simp only [denE, denEs, denI, lk, st, EVL]; try rfl)
    · refine seq_last (ite_b (c := eqB g M) (by simp only [denE, denEs, denI, lk, st, EVL]) (fun c' => ?_) (fun c' => ?_))
      · refine seq_last ?_; have : hh = Float64.sub (Float64.add 0x4000000000000000 (Float64.div (Float64.sub M r) D)) (Float64.div (Float64.sub M b) D) := by rw [<- e]; unfold hue6; rw [if_neg (by simp [c]), if_pos c']
        subst this; exact asg (by simp only [denE, denEs, denI, lk, st, EVL]; try rfl)
      · refine seq_last ?_; have : hh = Float64.sub (Float64.add 0x4010000000000000 (Float64.div (Float64.sub M g) D)) (Float64.div (Float64.sub M r) D) := by rw [<- e]; unfold hue6; rw [if_neg (by simp [c]), if_neg (by simp [c'])]
        subst this; exact asg (by simp only [denE, denEs, denI, lk, st, EVL]; try rfl)
  refine seq (key _ _ _ _ _ _ _ rfl) ?_; refine seq (asg (by simp only [denE, denEs, denI, lk, st, EVL, b_div_ff _ _ z6, b_mod_ff _ _ z1]; try rfl)) ?_; exact seq_ret (by simp only [denE, denEs, denI, lk, st, EVL]; try rfl)
theorem rgbv_eq (h0 : eqB s 0 = true) : denF F Co.f_hsv_to_rgb [.flt h, .flt s, .flt v] = some (.tup [.flt v, .flt v, .flt v]) := by
  apply fun_ret rfl; show denSs F Co.f_hsv_to_rgb.code [some (.flt h), some (.flt s), some (.flt v), none, none, none, none, none] = _; unfold Co.f_hsv_to_rgb; refine seq_out (ite_t (by simp only [denE, denEs, denI, lk, st, EVL, h0]) (seq_ret (by simp only [denE, denEs, denI, lk, st, EVL]; try rfl))) (by simp)
def pick (k : Int) (v t p q : UInt64) : List PV :=
  if k = 0 then [.flt v, .flt t, .flt p] else if k = 1 then [.flt q, .flt v, .flt p] else if k = 2 then [.flt p, .flt v, .flt t]
  else if k = 3 then [.flt p, .flt q, .flt v] else if k = 4 then [.flt t, .flt p, .flt v] else [.flt v, .flt p, .flt q]
theorem rgbv_ne {i : Int} (h0 : eqB s 0 = false) (hi : biF .int [.flt (Float64.mul h 0x4018000000000000)] = some (.int i)) (ho : okF i = true) :
    denF F Co.f_hsv_to_rgb [.flt h, .flt s, .flt v] = some (.tup (pick (i % 6) v
      (Float64.mul v (Float64.sub 0x3ff0000000000000 (Float64.mul s (Float64.sub 0x3ff0000000000000 (Float64.sub (Float64.mul h 0x4018000000000000) (Float64.ofInt i))))))
      (Float64.mul v (Float64.sub 0x3ff0000000000000 s))
      (Float64.mul v (Float64.sub 0x3ff0000000000000 (Float64.mul s (Float64.sub (Float64.mul h 0x4018000000000000) (Float64.ofInt i))))))) := by
  apply fun_r rfl; show rets (denSs F Co.f_hsv_to_rgb.code [some (.flt h), some (.flt s), some (.flt v), none, none, none, none, none]) = _; unfold Co.f_hsv_to_rgb; refine r_skip (by simp only [denE, denEs, denI, lk, st, EVL, h0]) ?_; refine r_seq (asg (by simp only [denE, denEs, denI, lk, st, EVL, hi]; try rfl)) ?_; refine r_seq (asg (by simp only [denE, denEs, denI, lk, st, EVL, b_sub_fi _ _ ho]; try rfl)) ?_; refine r_seq (asg (by simp only [denE, denEs, denI, lk, st, EVL]; try rfl)) ?_; refine r_seq (asg (by simp only [denE, denEs, denI, lk, st, EVL]; try rfl)) ?_; refine r_seq (asg (by simp only [denE, denEs, denI, lk, st, EVL]; try rfl)) ?_; refine r_seq (asg (by simp only [denE, denEs, denI, lk, st, EVL, b_mod_ii _ 6 (by decide)]; try rfl)) ?_; simp only [st]; generalize hk : i % 6 = k; have hk6 : k = 0 \/ k = 1 \/ k = 2 \/ k = 3 \/ k = 4 \/ k = 5 := by omega
  clear hk; rcases hk6 with rfl | rfl | rfl | rfl | rfl | rfl
  · exact r_ite_t (by simp only [denE, denEs, denI, lk, st, EVL]; try rfl) (r_ret (by simp only [denE, denEs, denI, lk, st, EVL]; try rfl))
  · refine r_skip (by simp only [denE, denEs, denI, lk, st, EVL]; try rfl) ?_; exact r_ite_t (by simp only [denE, denEs, denI, lk, st, EVL]; try rfl) (r_ret (by simp only [denE, denEs, denI, lk, st, EVL]; try rfl))
  · refine r_skip (by simp only [denE, denEs, denI, lk, st, EVL]; try rfl) ?_; refine r_skip (by simp only [denE, denEs, denI, lk, st, EVL]; try rfl) ?_; exact r_ite_t (by simp only [denE, denEs, denI, lk, st, EVL]; try rfl) (r_ret (by simp only [denE, denEs, denI, lk, st, EVL]; try rfl))
  · refine r_skip (by simp only [denE, denEs, denI, lk, st, EVL]; try rfl) ?_; refine r_skip (by simp only [denE, denEs, denI, lk, st, EVL]; try rfl) ?_; refine r_skip (by simp only [denE, denEs, denI, lk, st, EVL]; try rfl) ?_; exact r_ite_t (by simp only [denE, denEs, denI, lk, st, EVL]; try rfl) (r_ret (by simp only [denE, denEs, denI, lk, st, EVL]; try rfl))
  · refine r_skip (by simp only [denE, denEs, denI, lk, st, EVL]; try rfl) ?_; refine r_skip (by simp only [denE, denEs, denI, lk, st, EVL]; try rfl) ?_; refine r_skip (by simp only [denE, denEs, denI, lk, st, EVL]; try rfl) ?_; refine r_skip (by simp only [denE, denEs, denI, lk, st, EVL]; try rfl) ?_; exact r_ite_t (by simp only [denE, denEs, denI, lk, st, EVL]; try rfl) (r_ret (by simp only [denE, denEs, denI, lk, st, EVL]; try rfl))
  · refine r_skip (by simp only [denE, denEs, denI, lk, st, EVL]; try rfl) ?_; refine r_skip (by simp only [denE, denEs, denI, lk, st, EVL]; try rfl) ?_; refine r_skip (by simp only [denE, denEs, denI, lk, st, EVL]; try rfl) ?_; refine r_skip (by simp only [denE, denEs, denI, lk, st, EVL]; try rfl) ?_; refine r_skip (by simp only [denE, denEs, denI, lk, st, EVL]; try rfl) ?_; exact r_ite_t (by simp only [denE, denEs, denI, lk, st, EVL]; try rfl) (r_ret (by simp only [denE, denEs, denI, lk, st, EVL]; try rfl))
def vF (m1 m2 u : UInt64) : UInt64 :=
  if ltB u 0x3fc5555555555555 then Float64.add m1 (Float64.mul (Float64.mul (Float64.sub m2 m1) u) 0x4018000000000000)
  else if ltB u 0x3fe0000000000000 then m2
  else if ltB u 0x3fe5555555555555 then Float64.add m1 (Float64.mul (Float64.mul (Float64.sub m2 m1) (Float64.sub 0x3fe5555555555555 u)) 0x4018000000000000)
  else m1
theorem v_den {m1 m2 u : UInt64} : denF F Co.f_v [.flt m1, .flt m2, .flt u] = some (.flt (vF m1 m2 (Float64.divmod u Float64.one).2)) := by
  rw [one_lit]; apply fun_ret rfl; show denSs F Co.f_v.code [some (.flt m1), some (.flt m2), some (.flt u)] = _; unfold Co.f_v Co.g_ONE_SIXTH Co.g_TWO_THIRD; refine seq (asg (by simp only [denE, denEs, denI, lk, st, EVL, b_mod_ff _ _ z1]; try rfl)) ?_; simp only [st]; unfold vF; cases c1 : ltB (Float64.divmod u 4607182418800017408).2 0x3fc5555555555555
  · refine seq (ite_f (by simp only [denE, denEs, denI, lk, st, EVL, c1]) seq_nil) ?_; cases c2 : ltB (Float64.divmod u 4607182418800017408).2 0x3fe0000000000000
    · refine seq (ite_f (by simp only [denE, denEs, denI, lk, st, EVL, c2]) seq_nil) ?_; cases c3 : ltB (Float64.divmod u 4607182418800017408).2 0x3fe5555555555555
      · refine seq (ite_f (by simp only [denE, denEs, denI, lk, st, EVL, c3]) seq_nil) ?_; exact seq_ret (by simp only [denE, denEs, denI, lk, st, EVL]; try rfl)
      · exact seq_out (ite_t (by simp only [denE, denEs, denI, lk, st, EVL, c3]) (seq_ret (by simp only [denE, denEs, denI, lk, st, EVL]; try rfl))) (by simp)
    · exact seq_out (ite_t (by simp only [denE, denEs, denI, lk, st, EVL, c2]) (seq_ret (by simp only [denE, denEs, denI, lk, st, EVL]; try rfl))) (by simp)
  · exact seq_out (ite_t (by simp only [denE, denEs, denI, lk, st, EVL, c1]) (seq_ret (by simp only [denE, denEs, denI, lk, st, EVL]; try rfl))) (by simp)
theorem rgbl_eq {k : Nat} (h0 : eqB s 0 = true) : denF F (Co.f_hls_to_rgb k) [.flt h, .flt l, .flt s] = some (.tup [.flt l, .flt l, .flt l]) := by
  apply fun_ret rfl; show denSs F (Co.f_hls_to_rgb k).code [some (.flt h), some (.flt l), some (.flt s), none, none] = _; unfold Co.f_hls_to_rgb; refine seq_out (ite_t (by simp only [denE, denEs, denI, lk, st, EVL, h0]) (seq_ret (by simp only [denE, denEs, denI, lk, st, EVL]; try rfl))) (by simp)
def hlsM2 (l s : UInt64) : UInt64 := if leB l 0x3fe0000000000000 then Float64.mul l (Float64.add 0x3ff0000000000000 s) else Float64.sub (Float64.add l s) (Float64.mul l s)
theorem rgbl_ne {k : Nat} (h0 : eqB s 0 = false) (hF : ∀ m1 m2 u : UInt64, F k [.flt m1, .flt m2, .flt u] = some (.flt (vF m1 m2 (Float64.divmod u Float64.one).2))) :
    denF F (Co.f_hls_to_rgb k) [.flt h, .flt l, .flt s] = some (.tup [
      .flt (vF (Float64.sub (Float64.mul 0x4000000000000000 l) (hlsM2 l s)) (hlsM2 l s) (Float64.divmod (Float64.add h 0x3fd5555555555555) Float64.one).2),
      .flt (vF (Float64.sub (Float64.mul 0x4000000000000000 l) (hlsM2 l s)) (hlsM2 l s) (Float64.divmod h Float64.one).2),
      .flt (vF (Float64.sub (Float64.mul 0x4000000000000000 l) (hlsM2 l s)) (hlsM2 l s) (Float64.divmod (Float64.sub h 0x3fd5555555555555) Float64.one).2)]) := by
  apply fun_ret rfl; show denSs F (Co.f_hls_to_rgb k).code [some (.flt h), some (.flt l), some (.flt s), none, none] = _; unfold Co.f_hls_to_rgb Co.g_ONE_THIRD; refine seq (ite_f (by simp only [denE, denEs, denI, lk, st, EVL, h0]) seq_nil) ?_; have key : ∀ m2 : UInt64, hlsM2 l s = m2 -> denS F (.ite (.cmp .LtE (.var 1) (.cst (.flt 0x3fe0000000000000))) (.cons (.asg 3 (.bin .Mult (.var 1) (.bin .Add (.cst (.flt 0x3ff0000000000000)) (.var 2)))) .nil) (.cons (.asg 3 (.bin .Sub (.bin .Add (.var 1) (.var 2)) (.bin .Mult (.var 1) (.var 2)))) .nil))
      [some (.flt h), some (.flt l), some (.flt s), none, none] = some ([some (.flt h), some (.flt l), some (.flt s), some (.flt m2), none], .next) := by
    intro m2 e; refine ite_b (c := leB l 0x3fe0000000000000) (by simp only [denE, denEs, denI, lk, st, EVL]; rfl) (fun c => ?_) (fun c => ?_)
    · refine seq_last ?_; have : m2 = Float64.mul l (Float64.add 0x3ff0000000000000 s) := by rw [<- e]; unfold hlsM2; rw [if_pos c]
      subst this; exact asg (by simp only [denE, denEs, denI, lk, st, EVL]; try rfl)
    · refine seq_last ?_; have : m2 = Float64.sub (Float64.add l s) (Float64.mul l s) := by rw [<- e]; unfold hlsM2; rw [if_neg (by simp [c])]
      subst this; exact asg (by simp only [denE, denEs, denI, lk, st, EVL]; try rfl)
  refine seq (key _ rfl) ?_; refine seq (asg (by simp only [denE, denEs, denI, lk, st, EVL]; try rfl)) ?_; exact seq_ret (by simp only [denE, denEs, denI, lk, st, EVL, hF]; try rfl)
end Mine
end
section
open PySem PySem.W PyProof.Rows
namespace Mine
def Gr (S : Nat) (x : UInt64) (n : Int) : Prop := FinF x /\ R x * (S : Rat) = (n : Rat)
structure Sc (S : Nat) where
  e : Nat
  le : e <= 1000
  eq : S = 2 ^ e
theorem Sc.pos {S : Nat} (h : Sc S) : (1 : Rat) <= (S : Rat) := by
  have : 1 <= S := by rw [h.eq]; exact Nat.one_le_two_pow
  exact_mod_cast this
theorem Sc.dy {S : Nat} (h : Sc S) {q : Rat} {n : Int} (hq : q * (S : Rat) = n) (hn : n.natAbs <= 2 ^ 53) : Dy q := ⟨n, h.e, Nat.le_trans h.le (by decide), hn, by rw [<- h.eq]; exact hq⟩
theorem abs53 {n : Int} (h : n.natAbs <= 2 ^ 53) : -(2 ^ 53 : Rat) <= (n : Rat) /\ (n : Rat) <= 2 ^ 53 := by
  have h1 : -(2 ^ 53 : Int) <= n := by omega
  have h2 : n <= (2 ^ 53 : Int) := by omega
  have h1' := Rat.intCast_le_intCast.mpr h1; have h2' := Rat.intCast_le_intCast.mpr h2; rw [Rat.intCast_neg, Rat.intCast_pow] at h1'; rw [Rat.intCast_pow] at h2'; exact ⟨h1', h2'⟩
theorem le_of_scale {q s b : Rat} (hs : 1 <= s) (hb : 0 <= b) (h : q * s <= b) : q <= b := by
  rcases (Rat.le_total : q <= 0 \/ 0 <= q) with hq | hq
  · exact Rat.le_trans hq hb
  · have := Rat.mul_le_mul_of_nonneg_left hs hq; grind
section
variable {S : Nat} {x y : UInt64} {n m : Int}
theorem gr_sub (hS : Sc S) (hx : Gr S x n) (hy : Gr S y m) (h : (n - m).natAbs <= 2 ^ 53) : Gr S (Float64.sub x y) (n - m) := by
  obtain ⟨f1, e1⟩ := hx; obtain ⟨f2, e2⟩ := hy; have hp := hS.pos; have hb := abs53 h; have he : (R x - R y) * (S : Rat) = ((n - m : Int) : Rat) := by push_cast; grind
  obtain ⟨a, -, -, b⟩ := sub_R f1 f2 (M := 2 ^ 53) ⟨53, by decide, rfl⟩
    (by
      have : -(R x - R y) <= 2 ^ 53 := le_of_scale hp (by grind) (by grind); push_cast; grind)
    (by
      have : (R x - R y) <= 2 ^ 53 := le_of_scale hp (by grind) (by grind); push_cast; grind)
  exact ⟨a, by rw [b (hS.dy he h)]; exact he⟩
theorem gr_add (hS : Sc S) (hx : Gr S x n) (hy : Gr S y m) (h : (n + m).natAbs <= 2 ^ 53) : Gr S (Float64.add x y) (n + m) := by
  obtain ⟨f1, e1⟩ := hx; obtain ⟨f2, e2⟩ := hy; have hp := hS.pos; have hb := abs53 h; have he : (R x + R y) * (S : Rat) = ((n + m : Int) : Rat) := by push_cast; grind
  obtain ⟨a, -, -, b⟩ := add_R f1 f2 (M := 2 ^ 53) ⟨53, by decide, rfl⟩
    (by
      have : -(R x + R y) <= 2 ^ 53 := le_of_scale hp (by grind) (by grind); push_cast; grind)
    (by
      have : (R x + R y) <= 2 ^ 53 := le_of_scale hp (by grind) (by grind); push_cast; grind)
  exact ⟨a, by rw [b (hS.dy he h)]; exact he⟩
theorem gr_lt (hS : Sc S) (hx : Gr S x n) (hy : Gr S y m) : R x < R y <-> n < m := by
  obtain ⟨f1, e1⟩ := hx; obtain ⟨f2, e2⟩ := hy; have hp : (0 : Rat) < (S : Rat) := by have := hS.pos; grind
  constructor
  · intro h; have := Rat.mul_lt_mul_of_pos_right h hp; rw [e1, e2] at this
    exact_mod_cast this
  · intro h; have : (n : Rat) < (m : Rat) := by exact_mod_cast h
    rw [<- e1, <- e2] at this; exact Rat.lt_of_mul_lt_mul_right this (Rat.le_of_lt hp)
theorem gr_eq (hS : Sc S) (hx : Gr S x n) (hy : Gr S y m) : R x = R y <-> n = m := by
  have h1 := gr_lt hS hx hy; have h2 := gr_lt hS hy hx; constructor
  · intro h; have a : ¬ n < m := fun q => by have := h1.mpr q; grind
    have b : ¬ m < n := fun q => by have := h2.mpr q; grind
    omega
  · intro h; have a : ¬ R x < R y := fun q => by have := h1.mp q; omega
    have b : ¬ R y < R x := fun q => by have := h2.mp q; omega
    grind
theorem gr_eqB (hS : Sc S) (hx : Gr S x n) (hy : Gr S y m) : eqB x y = decide (n = m) := by
  have h := gr_eq hS hx hy; have h1 := gr_lt hS hx hy; unfold eqB; rw [cmp_of hx.1 hy.1]
  by_cases hc : n = m
  · rw [if_neg (by rw [h1]; omega), if_pos (h.mpr hc)]; simp [hc]
  · have : ¬ R x = R y := fun q => hc (h.mp q); simp only [hc, decide_false]; split
    · rfl
    · first | rw [if_neg this]; rfl | rfl
theorem gr_gtB (hS : Sc S) (hx : Gr S x n) (hy : Gr S y m) : gtB x y = decide (n > m) := by
  have h := gr_eq hS hx hy; have h1 := gr_lt hS hx hy; unfold gtB; rw [cmp_of hx.1 hy.1]
  by_cases hc : n < m
  · rw [if_pos (h1.mpr hc)]; have : ¬ n > m := by omega
    simp [this]
  · rw [if_neg (fun q => hc (h1.mp q))]
    by_cases hd : n = m
    · rw [if_pos (h.mpr hd)]; have : ¬ n > m := by omega
      simp [this]
    · rw [if_neg (fun q => hd (h.mp q))]; have : n > m := by omega
      simp [this]
theorem gr_ltB (hS : Sc S) (hx : Gr S x n) (hy : Gr S y m) : ltB x y = decide (n < m) := by
  have h := gr_eq hS hx hy; have h1 := gr_lt hS hx hy; unfold ltB; rw [cmp_of hx.1 hy.1]
  by_cases hc : n < m
  · rw [if_pos (h1.mpr hc)]; simp [hc]
  · rw [if_neg (fun q => hc (h1.mp q))]
    by_cases hd : n = m
    · rw [if_pos (h.mpr hd)]; simp [hc]
    · rw [if_neg (fun q => hd (h.mp q))]; simp [hc]
theorem gr_zero (hS : Sc S) (hx : Gr S x n) : Float64.isZero x = decide (n = 0) := by
  rw [isZero_R hx.1]; have hp : (0 : Rat) < (S : Rat) := by have := hS.pos; grind
  have : R x = 0 <-> n = 0 := by
    constructor
    · intro h; have := hx.2; rw [h, Rat.zero_mul] at this; have h2 : ((0 : Int) : Rat) = (n : Rat) := by exact_mod_cast this
      have h3 : (0 : Int) = n := by exact_mod_cast h2
      omega
    · intro h; have h2 := hx.2; rw [h] at h2; refine canE hp ?_; rw [h2, Rat.zero_mul]; push_cast; rfl
  simp [this]
def max3 (a b c : Int) : Int := if b > a then (if c > b then c else b) else (if c > a then c else a)
def min3 (a b c : Int) : Int := if b < a then (if c < b then c else b) else (if c < a then c else a)
variable {r g b : UInt64} {A B C : Int}
theorem gr_mx (hS : Sc S) (hr : Gr S r A) (hg : Gr S g B) (hb : Gr S b C) : Gr S (mx3 r g b) (max3 A B C) := by
  unfold mx3 max3; rw [gr_gtB hS hg hr, gr_gtB hS hb hg, gr_gtB hS hb hr]; simp only [decide_eq_true_eq]; split
  · split
    · exact hb
    · exact hg
  · split
    · exact hb
    · exact hr
theorem gr_mn (hS : Sc S) (hr : Gr S r A) (hg : Gr S g B) (hb : Gr S b C) : Gr S (mn3 r g b) (min3 A B C) := by
  unfold mn3 min3; rw [gr_ltB hS hg hr, gr_ltB hS hb hg, gr_ltB hS hb hr]; simp only [decide_eq_true_eq]; split
  · split
    · exact hb
    · exact hg
  · split
    · exact hb
    · exact hr
theorem gr_div (hS : Sc S) (hx : Gr S x n) (hy : Gr S y m) (h0 : 0 <= n) (h1 : n <= m) (h2 : 0 < m) :
    FinF (Float64.div x y) /\ (n : Rat) / (m : Rat) - 1 / 2 ^ 54 <= R (Float64.div x y) /\ R (Float64.div x y) <= (n : Rat) / (m : Rat) + 1 / 2 ^ 54 /\ (n = 0 -> R (Float64.div x y) = 0) /\ (n = m -> R (Float64.div x y) = 1) := by
  have hp : (0 : Rat) < (S : Rat) := by have := hS.pos; grind
  obtain ⟨f1, e1⟩ := hx; obtain ⟨f2, e2⟩ := hy; have hm : (0 : Rat) < (m : Rat) := by exact_mod_cast h2
  have hn : (0 : Rat) <= (n : Rat) := by exact_mod_cast h0
  have hnm : (n : Rat) <= (m : Rat) := by exact_mod_cast h1
  have hy0 : 0 < R y := Rat.lt_of_mul_lt_mul_right (c := (S : Rat)) (by rw [Rat.zero_mul, e2]; exact hm) (Rat.le_of_lt hp); have hx0 : 0 <= R x := canR hp (by rw [Rat.zero_mul, e1]; exact hn); have hxy : R x <= R y := canR hp (by rw [e1, e2]; exact hnm); obtain ⟨a, b, c, d⟩ := div_R f1 f2 hy0 (M := 1) ⟨0, by decide, rfl⟩ (by push_cast; grind) (by push_cast; grind); have hq : R x / R y = (n : Rat) / (m : Rat) := by
    have q1 : R x / R y * R y = R x := by grind
    have q2 : (n : Rat) / (m : Rat) * (m : Rat) = n := by grind
    generalize R x / R y = Q at *; generalize (n : Rat) / (m : Rat) = P at *; refine canE hm ?_; rw [q2, <- e1, <- q1, <- e2]; grind
  rw [hq] at b c d; push_cast at b c; refine ⟨a, b, c, fun e => ?_, fun e => ?_⟩
  · have : (n : Rat) / (m : Rat) = 0 := by rw [e]; push_cast; simp [Rat.div_def]
    rw [this] at d; exact d ⟨0, 0, by decide, by decide, by push_cast; grind⟩
  · have : (n : Rat) / (m : Rat) = 1 := by rw [e]; grind
    rw [this] at d; exact d ⟨1, 0, by decide, by decide, by push_cast; grind⟩
end
end Mine
end
section
open PySem PySem.W PyProof.Rows
namespace Mine
theorem fin_of {x : UInt64} (h : Float64.isFinite x = true) : FinF x := by
  unfold Float64.isFinite at h; unfold FinF; cases hd : Float64.decode x with
  | fin a m e => exact ⟨a, m, e, rfl⟩
  | _ => rw [hd] at h; cases h
theorem lit_R {x : UInt64} {n : Int} {d : Int} (hf : Float64.isFinite x = true) (hd : 0 < d) (h : Float64.val x * d = n * (K : Int)) : FinF x /\ R x = (n : Rat) / (d : Rat) := ⟨fin_of hf, R_of_val hd h⟩
theorem l2 : FinF 0x4000000000000000 /\ R 0x4000000000000000 = 2 := by
  have := lit_R (x := 0x4000000000000000) (n := 2) (d := 1) (by decide +kernel) (by decide) (by decide +kernel); exact ⟨this.1, by rw [this.2]; push_cast; grind⟩
theorem l4 : FinF 0x4010000000000000 /\ R 0x4010000000000000 = 4 := by
  have := lit_R (x := 0x4010000000000000) (n := 4) (d := 1) (by decide +kernel) (by decide) (by decide +kernel); exact ⟨this.1, by rw [this.2]; push_cast; grind⟩
theorem l6 : FinF 0x4018000000000000 /\ R 0x4018000000000000 = 6 := by
  have := lit_R (x := 0x4018000000000000) (n := 6) (d := 1) (by decide +kernel) (by decide) (by decide +kernel); exact ⟨this.1, by rw [this.2]; push_cast; grind⟩
theorem l1 : FinF 0x3ff0000000000000 /\ R 0x3ff0000000000000 = 1 := by
  have := lit_R (x := 0x3ff0000000000000) (n := 1) (d := 1) (by decide +kernel) (by decide) (by decide +kernel); exact ⟨this.1, by rw [this.2]; push_cast; grind⟩
theorem lh : FinF 0x3fe0000000000000 /\ R 0x3fe0000000000000 = 1 / 2 := by
  have := lit_R (x := 0x3fe0000000000000) (n := 1) (d := 2) (by decide +kernel) (by decide) (by decide +kernel); exact ⟨this.1, by rw [this.2]; push_cast; grind⟩
theorem l0 : FinF 0 /\ R 0 = 0 := by
  have := lit_R (x := 0) (n := 0) (d := 1) (by decide +kernel) (by decide) (by decide +kernel); exact ⟨this.1, by rw [this.2]; push_cast; grind⟩
theorem l13 : FinF 0x3fd5555555555555 /\ R 0x3fd5555555555555 = 6004799503160661 / 2 ^ 54 := by
  have := lit_R (x := 0x3fd5555555555555) (n := 6004799503160661) (d := 2 ^ 54) (by decide +kernel) (by decide) (by decide +kernel); exact ⟨this.1, by rw [this.2]; push_cast; grind⟩
theorem l16 : FinF 0x3fc5555555555555 /\ R 0x3fc5555555555555 = 6004799503160661 / 2 ^ 55 := by
  have := lit_R (x := 0x3fc5555555555555) (n := 6004799503160661) (d := 2 ^ 55) (by decide +kernel) (by decide) (by decide +kernel); exact ⟨this.1, by rw [this.2]; push_cast; grind⟩
theorem l23 : FinF 0x3fe5555555555555 /\ R 0x3fe5555555555555 = 6004799503160661 / 2 ^ 53 := by
  have := lit_R (x := 0x3fe5555555555555) (n := 6004799503160661) (d := 2 ^ 53) (by decide +kernel) (by decide) (by decide +kernel); exact ⟨this.1, by rw [this.2]; push_cast; grind⟩
def hueQ (A B C : Int) : Rat :=
  if A = max3 A B C then ((B - C : Int) : Rat) / ((max3 A B C - min3 A B C : Int) : Rat)
  else if B = max3 A B C then 2 + ((C - A : Int) : Rat) / ((max3 A B C - min3 A B C : Int) : Rat)
  else 4 + ((A - B : Int) : Rat) / ((max3 A B C - min3 A B C : Int) : Rat)
theorem max3_spec (A B C : Int) : A <= max3 A B C /\ B <= max3 A B C /\ C <= max3 A B C /\ (max3 A B C = A \/ max3 A B C = B \/ max3 A B C = C) := by unfold max3; omega
theorem min3_spec (A B C : Int) : min3 A B C <= A /\ min3 A B C <= B /\ min3 A B C <= C /\ (min3 A B C = A \/ min3 A B C = B \/ min3 A B C = C) := by unfold min3; omega
section
variable {S : Nat} {r g b : UInt64} {A B C : Int}
theorem frac_unit {n m : Int} (h0 : 0 <= n) (h1 : n <= m) (h2 : 0 < m) : (0 : Rat) <= (n : Rat) / (m : Rat) /\ (n : Rat) / (m : Rat) <= 1 := by
  have hm : (0 : Rat) < (m : Rat) := by exact_mod_cast h2
  have hn : (0 : Rat) <= (n : Rat) := by exact_mod_cast h0
  have hnm : (n : Rat) <= (m : Rat) := by exact_mod_cast h1
  have q : (n : Rat) / (m : Rat) * (m : Rat) = n := by grind
  exact ⟨canR hm (by rw [q, Rat.zero_mul]; exact hn), canR hm (by rw [q, Rat.one_mul]; exact hnm)⟩
theorem hue_R (hS : Sc S) (hr : Gr S r A) (hg : Gr S g B) (hb : Gr S b C) (hA : 0 <= A /\ A <= 2 ^ 50) (hB : 0 <= B /\ B <= 2 ^ 50) (hC : 0 <= C /\ C <= 2 ^ 50) (hd : min3 A B C < max3 A B C) :
    FinF (hue6 r g b (mx3 r g b) (Float64.sub (mx3 r g b) (mn3 r g b))) /\
    hueQ A B C - 5 / 2 ^ 52 <= R (hue6 r g b (mx3 r g b) (Float64.sub (mx3 r g b) (mn3 r g b))) /\ R (hue6 r g b (mx3 r g b) (Float64.sub (mx3 r g b) (mn3 r g b))) <= hueQ A B C + 5 / 2 ^ 52 /\ -1 <= hueQ A B C /\ hueQ A B C <= 5 := by
  have gM := gr_mx hS hr hg hb; have gN := gr_mn hS hr hg hb; obtain ⟨m1, m2, m3, m4⟩ := max3_spec A B C; obtain ⟨n1, n2, n3, n4⟩ := min3_spec A B C; unfold hue6 hueQ; rw [gr_eqB hS hr gM, gr_eqB hS hg gM]; generalize mx3 r g b = X at *; generalize mn3 r g b = Y at *; generalize max3 A B C = M at *; generalize min3 A B C = N at *; have gD := gr_sub hS gM gN (by omega); have gr' := gr_sub hS gM hr (by omega); have gg' := gr_sub hS gM hg (by omega); have gb' := gr_sub hS gM hb (by omega); obtain ⟨r1, r2, r3, -⟩ := gr_div hS gr' gD (by omega) (by omega) (by omega); obtain ⟨g1, g2, g3, -⟩ := gr_div hS gg' gD (by omega) (by omega) (by omega); obtain ⟨b1, b2, b3, -⟩ := gr_div hS gb' gD (by omega) (by omega) (by omega); obtain ⟨ru, rv⟩ := frac_unit (n := M - A) (m := M - N) (by omega) (by omega) (by omega); obtain ⟨gu, gv⟩ := frac_unit (n := M - B) (m := M - N) (by omega) (by omega) (by omega); obtain ⟨bu, bv⟩ := frac_unit (n := M - C) (m := M - N) (by omega) (by omega) (by omega); have e1 : ((B - C : Int) : Rat) / ((M - N : Int) : Rat) = ((M - C : Int) : Rat) / ((M - N : Int) : Rat) - ((M - B : Int) : Rat) / ((M - N : Int) : Rat) := by push_cast; grind
  have e2 : ((C - A : Int) : Rat) / ((M - N : Int) : Rat) = ((M - A : Int) : Rat) / ((M - N : Int) : Rat) - ((M - C : Int) : Rat) / ((M - N : Int) : Rat) := by push_cast; grind
  have e3 : ((A - B : Int) : Rat) / ((M - N : Int) : Rat) = ((M - B : Int) : Rat) / ((M - N : Int) : Rat) - ((M - A : Int) : Rat) / ((M - N : Int) : Rat) := by push_cast; grind
  rw [e1, e2, e3]; generalize ((M - A : Int) : Rat) / ((M - N : Int) : Rat) = qa at *; generalize ((M - B : Int) : Rat) / ((M - N : Int) : Rat) = qb at *; generalize ((M - C : Int) : Rat) / ((M - N : Int) : Rat) = qc at *; generalize Float64.div (Float64.sub X r) (Float64.sub X Y) = xa at *; generalize Float64.div (Float64.sub X g) (Float64.sub X Y) = xb at *; generalize Float64.div (Float64.sub X b) (Float64.sub X Y) = xc at *; clear e1 e2 e3 gr' gg' gb' gD gM gN; simp only [decide_eq_true_eq]; split
  · obtain ⟨a1, a2, a3, -⟩ := sub_R b1 g1 (M := 2) ⟨1, by decide, rfl⟩ (by push_cast; grind) (by push_cast; grind); push_cast at a2 a3; exact ⟨a1, by grind, by grind, by grind, by grind⟩
  · split
    · obtain ⟨t1, t2⟩ := l2; obtain ⟨a1, a2, a3, -⟩ := add_R t1 r1 (M := 4) ⟨2, by decide, rfl⟩ (by push_cast; grind) (by push_cast; grind); push_cast at a2 a3; obtain ⟨c1, c2, c3, -⟩ := sub_R a1 b1 (M := 4) ⟨2, by decide, rfl⟩ (by push_cast; grind) (by push_cast; grind); push_cast at c2 c3; exact ⟨c1, by grind, by grind, by grind, by grind⟩
    · obtain ⟨t1, t2⟩ := l4; obtain ⟨a1, a2, a3, -⟩ := add_R t1 g1 (M := 8) ⟨3, by decide, rfl⟩ (by push_cast; grind) (by push_cast; grind); push_cast at a2 a3; obtain ⟨c1, c2, c3, -⟩ := sub_R a1 r1 (M := 8) ⟨3, by decide, rfl⟩ (by push_cast; grind) (by push_cast; grind); push_cast at c2 c3; exact ⟨c1, by grind, by grind, by grind, by grind⟩
def hueF (r g b : UInt64) : UInt64 := (Float64.divmod (Float64.div (hue6 r g b (mx3 r g b) (Float64.sub (mx3 r g b) (mn3 r g b))) 0x4018000000000000) Float64.one).2
theorem hueF_R (hS : Sc S) (hr : Gr S r A) (hg : Gr S g B) (hb : Gr S b C) (hA : 0 <= A /\ A <= 2 ^ 50) (hB : 0 <= B /\ B <= 2 ^ 50) (hC : 0 <= C /\ C <= 2 ^ 50) (hd : min3 A B C < max3 A B C) :
    FinF (hueF r g b) /\ 0 <= R (hueF r g b) /\ R (hueF r g b) <= 1 + 1 / 2 ^ 52 /\ ∃ n : Int, hueQ A B C - 6 * n - 1 / 2 ^ 49 <= 6 * R (hueF r g b) /\ 6 * R (hueF r g b) <= hueQ A B C - 6 * n + 1 / 2 ^ 49 := by
  obtain ⟨h1, h2, h3, h4, h5⟩ := hue_R hS hr hg hb hA hB hC hd; unfold hueF; generalize hue6 r g b (mx3 r g b) (Float64.sub (mx3 r g b) (mn3 r g b)) = H at *; obtain ⟨s1, s2⟩ := l6; obtain ⟨a1, a2, a3, -⟩ := div_R h1 s1 (by rw [s2]; grind) (M := 1) ⟨0, by decide, rfl⟩ (by rw [s2]; push_cast; grind) (by rw [s2]; push_cast; grind); rw [s2] at a2 a3; push_cast at a2 a3; obtain ⟨m1, m2, n, m3, m4, m5, m6, -⟩ := mod_one a1; exact ⟨m1, m2, by grind, n, by grind, by grind⟩
end
end Mine
end
section
open PySem PySem.W PyProof.Rows
namespace Mine
def clamp (x : Rat) : Rat := if x < 0 then 0 else if 1 < x then 1 else x
def absR (x : Rat) : Rat := if x < 0 then -x else x
def hatR (u : Rat) : Rat := clamp (absR (u - 3) - 1)
def hatG (u : Rat) : Rat := clamp (2 - absR (u - 2))
def hatB (u : Rat) : Rat := clamp (2 - absR (u - 4))
theorem prodE {v x e : Rat} (h0 : 0 <= v) (h1 : v <= 1) (h2 : -e <= x) (h3 : x <= e) : -e <= v * x /\ v * x <= e := by
  have he : 0 <= e := by grind
  have a := Rat.mul_nonneg h0 (show 0 <= e - x by grind); have b := Rat.mul_nonneg h0 (show 0 <= e + x by grind); have c := Rat.mul_nonneg (show 0 <= 1 - v by grind) he; constructor <;> grind
theorem prodE2 {v x e : Rat} (h0 : -2 <= v) (h1 : v <= 2) (h2 : -e <= x) (h3 : x <= e) : -(2 * e) <= v * x /\ v * x <= 2 * e := by
  have he : 0 <= e := by grind
  have a := Rat.mul_nonneg (show 0 <= 2 - v by grind) (show 0 <= e - x by grind); have b := Rat.mul_nonneg (show 0 <= 2 - v by grind) (show 0 <= e + x by grind); have c := Rat.mul_nonneg (show 0 <= 2 + v by grind) (show 0 <= e - x by grind); have d := Rat.mul_nonneg (show 0 <= 2 + v by grind) (show 0 <= e + x by grind); constructor <;> grind
section
variable {v s f : UInt64} {d φ : Rat}
theorem q_comp (fv : FinF v) (fs : FinF s) (ff : FinF f) (v0 : 0 <= R v) (v1 : R v <= 1) (d0 : 0 <= d) (d1 : d <= 1) (s0 : 0 <= R s) (s1 : R s <= 1 + 1 / 2 ^ 54)
    (w1 : d - 1 / 2 ^ 54 <= R v * R s) (w2 : R v * R s <= d + 1 / 2 ^ 54) (p0 : 0 <= φ) (p1 : φ <= 1) (f1 : φ - 4 / 2 ^ 54 <= R f) (f2 : R f <= φ + 4 / 2 ^ 54) :
    FinF (Float64.mul v (Float64.sub 0x3ff0000000000000 (Float64.mul s f))) /\ R v - d * φ - 32 / 2 ^ 54 <= R (Float64.mul v (Float64.sub 0x3ff0000000000000 (Float64.mul s f))) /\
    R (Float64.mul v (Float64.sub 0x3ff0000000000000 (Float64.mul s f))) <= R v - d * φ + 32 / 2 ^ 54 := by
  obtain ⟨o1, o2⟩ := l1; have sf := prodE2 (v := R s) (x := R f) (e := 3 / 2) (by grind) (by grind) (by grind) (by grind); obtain ⟨a1, a2, a3, -⟩ := mul_R fs ff (M := 4) ⟨2, by decide, rfl⟩ (by push_cast; grind) (by push_cast; grind); push_cast at a2 a3; have sf0 : -(8 / 2 ^ 54) <= R s * R f := by
    have := prodE2 (v := R s) (x := R f - φ) (e := 4 / 2 ^ 54) (by grind) (by grind) (by grind) (by grind); have := Rat.mul_nonneg s0 p0; grind
  have sf1 : R s * R f <= 1 + 16 / 2 ^ 54 := by
    have := prodE2 (v := R s) (x := R f - φ) (e := 4 / 2 ^ 54) (by grind) (by grind) (by grind) (by grind); have := Rat.mul_nonneg s0 (show 0 <= 1 - φ by grind); grind
  generalize Float64.mul s f = p at *; obtain ⟨b1, b2, b3, -⟩ := sub_R o1 a1 (M := 2) ⟨1, by decide, rfl⟩ (by rw [o2]; push_cast; grind) (by rw [o2]; push_cast; grind); rw [o2] at b2 b3; push_cast at b2 b3; generalize Float64.sub 0x3ff0000000000000 p = q at *; have vq := prodE v0 v1 (x := R q) (e := 3 / 2) (by grind) (by grind); obtain ⟨c1, c2, c3, -⟩ := mul_R fv b1 (M := 2) ⟨1, by decide, rfl⟩ (by push_cast; grind) (by push_cast; grind); push_cast at c2 c3; generalize Float64.mul v q = z at *; have e1 := prodE v0 v1 (x := R q - (1 - R s * R f)) (e := 6 / 2 ^ 54) (by grind) (by grind); have e2 := prodE2 (v := R f) (x := R v * R s - d) (e := 1 / 2 ^ 54) (by grind) (by grind) (by grind) (by grind); have e3 := prodE d0 d1 (x := R f - φ) (e := 4 / 2 ^ 54) (by grind) (by grind); exact ⟨c1, by grind, by grind⟩
theorem p_comp (fv : FinF v) (fs : FinF s) (v0 : 0 <= R v) (v1 : R v <= 1) (d0 : 0 <= d) (d1 : d <= 1) (s0 : 0 <= R s) (s1 : R s <= 1 + 1 / 2 ^ 54)
    (w1 : d - 1 / 2 ^ 54 <= R v * R s) (w2 : R v * R s <= d + 1 / 2 ^ 54) :
    FinF (Float64.mul v (Float64.sub 0x3ff0000000000000 s)) /\ R v - d - 32 / 2 ^ 54 <= R (Float64.mul v (Float64.sub 0x3ff0000000000000 s)) /\
    R (Float64.mul v (Float64.sub 0x3ff0000000000000 s)) <= R v - d + 32 / 2 ^ 54 := by
  obtain ⟨o1, o2⟩ := l1; obtain ⟨b1, b2, b3, -⟩ := sub_R o1 fs (M := 2) ⟨1, by decide, rfl⟩ (by rw [o2]; push_cast; grind) (by rw [o2]; push_cast; grind); rw [o2] at b2 b3; push_cast at b2 b3; generalize Float64.sub 0x3ff0000000000000 s = q at *; have vq := prodE v0 v1 (x := R q) (e := 3 / 2) (by grind) (by grind); obtain ⟨c1, c2, c3, -⟩ := mul_R fv b1 (M := 2) ⟨1, by decide, rfl⟩ (by push_cast; grind) (by push_cast; grind); push_cast at c2 c3; generalize Float64.mul v q = z at *; have e1 := prodE v0 v1 (x := R q - (1 - R s)) (e := 2 / 2 ^ 54) (by grind) (by grind); exact ⟨c1, by grind, by grind⟩
end
def Nr (x : UInt64) (q e : Rat) : Prop := FinF x /\ q - e <= R x /\ R x <= q + e
theorem Nr.self {x : UInt64} (h : FinF x) {e : Rat} (he : 0 <= e) : Nr x (R x) e := ⟨h, by grind, by grind⟩
def Hats (l : List PV) (N d u e : Rat) : Prop := ∃ x y z : UInt64, l = [.flt x, .flt y, .flt z] /\ Nr x (N + d * hatR u) e /\ Nr y (N + d * hatG u) e /\ Nr z (N + d * hatB u) e
theorem trunc_R {x : UInt64} {a : Bool} {m : Nat} {e : Int} (hx : Float64.decode x = .fin a m e) (h : 0 <= R x) : ((Float64.truncOf a m e : Int) : Rat) <= R x /\ R x < ((Float64.truncOf a m e : Int) : Rat) + 1 /\ 0 <= Float64.truncOf a m e := by
  have kp := Kq_pos; have hv := Float64.val_eq hx; have he := Float64.decode_ge hx; have hv0 := R_nonneg_iff.mp h; have hs : Float64.truncOf a m e = Float64.floorOf false m e := by
    cases a
    · rfl
    · have hm : m = 0 := by
        rw [hv] at hv0; unfold Float64.sgn at hv0; simp only [if_true] at hv0; have : m * 2 ^ (e + 1074).toNat = 0 := by omega
        rcases Nat.mul_eq_zero.mp this with h | h
        · exact h
        · exact absurd h (Nat.ne_of_gt (Nat.two_pow_pos _))
      subst hm; unfold Float64.truncOf Float64.ceilOf Float64.floorOf Float64.sgn; simp
  have hva : Float64.val x = ((m * 2 ^ (e + 1074).toNat : Nat) : Int) := by
    have := Float64.val_natAbs hx; omega
  rw [hs]; unfold Float64.floorOf Float64.sgn; simp only [Bool.false_eq_true, if_false]
  by_cases h0 : e >= 0
  · rw [if_pos h0]; have : Float64.val x = ((m : Int) * 2 ^ e.toNat) * (K : Int) := by
      rw [hva]; have e1 : (e + 1074).toNat = e.toNat + 1074 := by omega
      rw [e1, Nat.pow_add, K_eq]; push_cast; rw [Int.mul_assoc]
    have hr : R x = (((m : Int) * 2 ^ e.toNat : Int) : Rat) := by
      refine canE kp ?_; rw [<- R_val, this]; push_cast; rfl
    rw [hr]; refine ⟨Rat.le_refl, by grind, ?_⟩; exact Int.mul_nonneg (by omega) (Int.pow_nonneg (by decide))
  · rw [if_neg h0]; have hK : ((2 ^ (-e).toNat : Nat) : Int) * ((2 ^ (e + 1074).toNat : Nat) : Int) = (K : Int) := by
      rw [<- Int.natCast_mul, <- Nat.pow_add]; have : (-e).toNat + (e + 1074).toNat = 1074 := by omega
      rw [this, K_eq]
    have hq : (m : Int).fdiv (2 ^ (-e).toNat) = ((m / 2 ^ (-e).toNat : Nat) : Int) := by
      rw [Int.fdiv_eq_ediv_of_nonneg _ (Int.pow_nonneg (by decide))]; push_cast; rfl
    rw [hq]; have hdm := Nat.div_add_mod m (2 ^ (-e).toNat); have hlt := Nat.mod_lt m (Nat.two_pow_pos (-e).toNat); generalize m / 2 ^ (-e).toNat = q at *; generalize m % 2 ^ (-e).toNat = r at *; generalize hA : 2 ^ (-e).toNat = A at *; generalize hB : 2 ^ (e + 1074).toNat = B at *; have hBp : (0 : Rat) < (B : Rat) := by
      have : 0 < B := by rw [<- hB]; exact Nat.two_pow_pos _
      exact_mod_cast this
    have hAp : (0 : Rat) < (A : Rat) := by
      have : 0 < A := by rw [<- hA]; exact Nat.two_pow_pos _
      exact_mod_cast this
    have hKR : (A : Rat) * (B : Rat) = (K : Rat) := by exact_mod_cast congrArg (fun z : Int => (z : Rat)) hK
    have h1 : R x * (A : Rat) = (m : Rat) := by
      refine canE hBp ?_; have : R x * (A : Rat) * (B : Rat) = R x * (K : Rat) := by rw [<- hKR]; grind
      rw [this, <- R_val, hva]; push_cast; rfl
    have h2 : (m : Rat) = (A : Rat) * (q : Rat) + (r : Rat) := by exact_mod_cast congrArg (fun z : Nat => (z : Rat)) hdm.symm
    have h3 : (r : Rat) < (A : Rat) := by exact_mod_cast hlt
    have h4 : (0 : Rat) <= (r : Rat) := by exact_mod_cast Nat.zero_le r
    refine ⟨canR hAp ?_, Rat.lt_of_mul_lt_mul_right (c := (A : Rat)) ?_ (Rat.le_of_lt hAp), by omega⟩
    · push_cast; rw [h1, h2]; grind
    · push_cast; rw [h1, h2]; grind
theorem int_R {x : UInt64} (hx : FinF x) (h : 0 <= R x) : ∃ n : Int, 0 <= n /\ biF .int [.flt x] = some (.int n) /\ (n : Rat) <= R x /\ R x < (n : Rat) + 1 := by
  obtain ⟨a, m, e, hd⟩ := hx; obtain ⟨h1, h2, h3⟩ := trunc_R hd h; refine ⟨_, h3, ?_, h1, h2⟩; show (match Float64.decode x with | .fin sg m e => some (PV.int (Float64.truncOf sg m e)) | _ => none) = _; rw [hd]
theorem int_eq {x : UInt64} (hx : FinF x) (n : Int) (h0 : 0 <= n) (h1 : (n : Rat) <= R x) (h2 : R x < (n : Rat) + 1) : biF .int [.flt x] = some (.int n) := by
  have hn : ((0 : Int) : Rat) <= (n : Rat) := Rat.intCast_le_intCast.mpr h0; obtain ⟨k, k0, k1, k2, k3⟩ := int_R hx (by have : ((0 : Int) : Rat) = 0 := rfl; grind); have a : k < n + 1 := by
    have : (k : Rat) < ((n + 1 : Int) : Rat) := by push_cast; grind
    exact Rat.intCast_lt_intCast.mp this
  have b : n < k + 1 := by
    have : (n : Rat) < ((k + 1 : Int) : Rat) := by push_cast; grind
    exact Rat.intCast_lt_intCast.mp this
  rw [k1, show k = n by omega]
theorem mul_nonneg' {x y : UInt64} (hx : FinF x) (hy : FinF y) (h0 : 0 <= R x) (h1 : 0 <= R y) (hf : FinF (Float64.mul x y)) : 0 <= R (Float64.mul x y) := by
  obtain ⟨a, m, e, hx⟩ := hx; obtain ⟨b, k, f, hy⟩ := hy; have hr := Float64.mul_right hx hy; rw [R_nonneg_iff] at h0 h1 ⊢
  by_cases hab : (a != b) = false
  · rw [hab] at hr; exact right_nonneg hr hf
  · -- one of them is nought
    have s1 := sgn_abs hx; have s2 := sgn_abs hy; have hz : (Float64.val x).natAbs * (Float64.val y).natAbs = 0 := by
      unfold Float64.sgn at s1 s2; cases a <;> cases b
      · exact absurd rfl hab
      · simp only [if_true] at s2; have : (Float64.val y).natAbs = 0 := by omega
        rw [this, Nat.mul_zero]
      · simp only [if_true] at s1; have : (Float64.val x).natAbs = 0 := by omega
        rw [this, Nat.zero_mul]
      · exact absurd rfl hab
    rw [hz] at hr; obtain ⟨-, -, h3⟩ := near_int (j := 0) hr K_pos (by decide) (Nat.zero_le _); have := h3 0 0 (by decide) (by decide) (by simp); have h4 : Float64.sgn (a != b) 0 = 0 := by unfold Float64.sgn; simp
    rw [h4] at this; rcases Int.mul_eq_zero.mp this with h | h
    · omega
    · exact absurd h (by have := K_pos; omega)
theorem hats_k (φ : Rat) (h0 : 0 <= φ) (h1 : φ <= 1) :
    (hatR (φ + (0 : Int)) = 1 /\ hatG (φ + (0 : Int)) = φ /\ hatB (φ + (0 : Int)) = 0) /\
    (hatR (φ + (1 : Int)) = 1 - φ /\ hatG (φ + (1 : Int)) = 1 /\ hatB (φ + (1 : Int)) = 0) /\
    (hatR (φ + (2 : Int)) = 0 /\ hatG (φ + (2 : Int)) = 1 /\ hatB (φ + (2 : Int)) = φ) /\
    (hatR (φ + (3 : Int)) = 0 /\ hatG (φ + (3 : Int)) = 1 - φ /\ hatB (φ + (3 : Int)) = 1) /\
    (hatR (φ + (4 : Int)) = φ /\ hatG (φ + (4 : Int)) = 0 /\ hatB (φ + (4 : Int)) = 1) /\
    (hatR (φ + (5 : Int)) = 1 /\ hatG (φ + (5 : Int)) = 0 /\ hatB (φ + (5 : Int)) = 1 - φ) := by
  unfold hatR hatG hatB clamp absR; push_cast; refine ⟨⟨?_, ?_, ?_⟩, ⟨?_, ?_, ?_⟩, ⟨?_, ?_, ?_⟩, ⟨?_, ?_, ?_⟩, ⟨?_, ?_, ?_⟩, ⟨?_, ?_, ?_⟩⟩ <;> grind
theorem rgbv_R {h s v : UInt64} {d : Rat} {F : Nat -> List PV -> Option PV} (fh : FinF h) (fv : FinF v) (fs : FinF s) (h0 : 0 <= R h) (h1 : R h <= 100) (v0 : 0 <= R v) (v1 : R v <= 1) (d0 : 0 < d) (d1 : d <= 1) (s0 : 0 < R s) (s1 : R s <= 1 + 1 / 2 ^ 54)
    (w1 : d - 1 / 2 ^ 54 <= R v * R s) (w2 : R v * R s <= d + 1 / 2 ^ 54) :
    ∃ l, denF F Co.f_hsv_to_rgb [.flt h, .flt s, .flt v] = some (.tup l) /\ ∃ (u : Rat) (m : Int), 0 <= u /\ u < 6 /\ Hats l (R v - d) d u (32 / 2 ^ 54) /\ 6 * R h - 6 * m - 1024 / 2 ^ 54 <= u /\ u <= 6 * R h - 6 * m + 1024 / 2 ^ 54 := by
  obtain ⟨o1, o2⟩ := l6; obtain ⟨a1, a2, a3, -⟩ := mul_R fh o1 (M := 1024) ⟨10, by decide, rfl⟩ (by rw [o2]; push_cast; grind) (by rw [o2]; push_cast; grind); rw [o2] at a2 a3; push_cast at a2 a3; have hH : 0 <= R (Float64.mul h 0x4018000000000000) := mul_nonneg' fh o1 h0 (by rw [o2]; grind) a1; obtain ⟨i, hi0, hi, hi1, hi2⟩ := int_R a1 hH; have hi3 : i <= 1000 := by
    have : (i : Rat) <= ((1000 : Int) : Rat) := by push_cast; grind
    exact Rat.intCast_le_intCast.mp this
  obtain ⟨f1, f2⟩ := ofInt_R (i := i) (by omega); have ho : okF i = true := by
    unfold okF; obtain ⟨a, m, e, hd⟩ := f1; unfold Float64.isInf; rw [hd]; rfl
  have hs : eqB s 0 = false := by
    unfold eqB; rw [cmp_of fs l0.1, l0.2]; split
    · rfl
    · rw [if_neg (by grind)]; rfl
  refine ⟨_, rgbv_ne hs hi ho, ?_⟩; obtain ⟨g1, g2, g3, -⟩ := sub_R a1 f1 (M := 1) ⟨0, by decide, rfl⟩ (by rw [f2]; push_cast; grind) (by rw [f2]; push_cast; grind); rw [f2] at g2 g3; push_cast at g2 g3; generalize Float64.mul h 0x4018000000000000 = H at *; generalize Float64.sub H (Float64.ofInt i) = f at *; obtain ⟨t1, t2⟩ := l1; obtain ⟨k1, k2, k3, -⟩ := sub_R t1 g1 (M := 2) ⟨1, by decide, rfl⟩ (by rw [t2]; push_cast; grind) (by rw [t2]; push_cast; grind); rw [t2] at k2 k3; push_cast at k2 k3; have cq := q_comp (φ := R H - i) (d := d) fv fs g1 v0 v1 (by grind) d1 (by grind) s1 w1 w2 (by grind) (by grind) (by grind) (by grind); have cp := p_comp (d := d) fv fs v0 v1 (by grind) d1 (by grind) s1 w1 w2; have ct : Nr (Float64.mul v (Float64.sub 0x3ff0000000000000 (Float64.mul s (Float64.sub 0x3ff0000000000000 f)))) (R v - d * (1 - (R H - i))) (32 / 2 ^ 54) :=
    q_comp (φ := 1 - (R H - i)) (d := d) fv fs k1 v0 v1 (by grind) d1 (by grind) s1 w1 w2 (by grind) (by grind) (by grind) (by grind)
  generalize Float64.mul v (Float64.sub 0x3ff0000000000000 (Float64.mul s (Float64.sub 0x3ff0000000000000 f))) = T at *; generalize Float64.mul v (Float64.sub 0x3ff0000000000000 (Float64.mul s f)) = Q at *; generalize Float64.mul v (Float64.sub 0x3ff0000000000000 s) = P at *; have hk : i = 6 * (i / 6) + i % 6 := by omega
  have hkR : (i : Rat) = 6 * ((i / 6 : Int) : Rat) + ((i % 6 : Int) : Rat) := by exact_mod_cast congrArg (fun z : Int => (z : Rat)) hk
  refine ⟨R H - 6 * ((i / 6 : Int) : Rat), i / 6, ?_⟩; have hk6 : i % 6 = 0 \/ i % 6 = 1 \/ i % 6 = 2 \/ i % 6 = 3 \/ i % 6 = 4 \/ i % 6 = 5 := by omega
  generalize i / 6 = j at *; generalize i % 6 = k at *; clear hk hi ho hi0 hi3 f1 f2 hs g1 g2 g3 k1 k2 k3 a1 w1 w2 s0 s1 fs fh; generalize R H = U at *; refine ⟨by rcases hk6 with e | e | e | e | e | e <;> (subst e; push_cast at *; grind), by rcases hk6 with e | e | e | e | e | e <;> (subst e; push_cast at *; grind), ?_, by grind, by grind⟩; have hφ0 : 0 <= U - (i : Rat) := by grind
  have hφ1 : U - (i : Rat) < 1 := by grind
  generalize hφ : U - (i : Rat) = φ at *; have hu : U - 6 * (j : Rat) = φ + (k : Rat) := by grind
  rw [hu]; have e0 : (0 : Rat) <= 32 / 2 ^ 54 := by grind
  have hv := Nr.self fv e0; obtain ⟨⟨a1, a2, a3⟩, ⟨b1, b2, b3⟩, ⟨c1, c2, c3⟩, ⟨d1', d2', d3'⟩, ⟨e1, e2, e3⟩, ⟨g1, g2, g3⟩⟩ := hats_k φ hφ0 (by grind); have near : ∀ {x : UInt64} {p q : Rat}, Nr x p (32 / 2 ^ 54) -> p = q -> Nr x q (32 / 2 ^ 54) := fun h e => e ▸ h; unfold Hats; rcases hk6 with e | e | e | e | e | e <;> subst e
  · exact ⟨_, _, _, rfl, near hv (by rw [a1]; grind), near ct (by rw [a2]; grind), near cp (by rw [a3]; grind)⟩
  · exact ⟨_, _, _, rfl, near cq (by rw [b1]; grind), near hv (by rw [b2]; grind), near cp (by rw [b3]; grind)⟩
  · exact ⟨_, _, _, rfl, near cp (by rw [c1]; grind), near hv (by rw [c2]; grind), near ct (by rw [c3]; grind)⟩
  · exact ⟨_, _, _, rfl, near cp (by rw [d1']; grind), near cq (by rw [d2']; grind), near hv (by rw [d3']; grind)⟩
  · exact ⟨_, _, _, rfl, near ct (by rw [e1]; grind), near cp (by rw [e2]; grind), near hv (by rw [e3]; grind)⟩
  · exact ⟨_, _, _, rfl, near hv (by rw [g1]; grind), near cp (by rw [g2]; grind), near cq (by rw [g3]; grind)⟩
end Mine
end
section
open PySem PySem.W PyProof.Rows
namespace Mine
theorem leB_R {x y : UInt64} (hx : FinF x) (hy : FinF y) : leB x y = decide (R x <= R y) := by
  unfold leB ltB eqB; rw [cmp_of hx hy]
  by_cases h : R x < R y
  · rw [if_pos h]; have : R x <= R y := Rat.le_of_lt h; simp [this]
  · rw [if_neg h]
    by_cases h2 : R x = R y
    · rw [if_pos h2]; have : R x <= R y := by grind
      simp [this]
    · rw [if_neg h2]; have : ¬ R x <= R y := by grind
      simp [this]
theorem ltB_R {x y : UInt64} (hx : FinF x) (hy : FinF y) : ltB x y = decide (R x < R y) := by
  unfold ltB; rw [cmp_of hx hy]
  by_cases h : R x < R y
  · rw [if_pos h]; simp [h]
  · rw [if_neg h]
    by_cases h2 : R x = R y
    · rw [if_pos h2]; simp [h]
    · rw [if_neg h2]; simp [h]
section
variable {S : Nat} {M N : UInt64} {m n : Int}
theorem hls_R (hS : Sc S) (hM : Gr S M m) (hN : Gr S N n) (h0 : 0 <= n) (h1 : n < m) (h2 : m <= (S : Int)) (h3 : m + n < 2 * (S : Int)) (hS2 : S <= 2 ^ 50) :
    (FinF (Float64.div (Float64.add M N) 0x4000000000000000) /\ R (Float64.div (Float64.add M N) 0x4000000000000000) = (R M + R N) / 2) /\
    (R (Float64.div (Float64.add M N) 0x4000000000000000) <= 1 / 2 -> Float64.isZero (Float64.add M N) = false) /\
    (Float64.isZero (Float64.sub (Float64.sub 0x4000000000000000 M) N) = false) /\
    FinF (hlsS M N (Float64.sub M N) (Float64.div (Float64.add M N) 0x4000000000000000)) /\ 0 < R (hlsS M N (Float64.sub M N) (Float64.div (Float64.add M N) 0x4000000000000000)) /\
    R (hlsS M N (Float64.sub M N) (Float64.div (Float64.add M N) 0x4000000000000000)) <= 1 + 1 / 2 ^ 54 /\
    (((R M + R N) / 2 <= 1 / 2 /\ (R M - R N) / 2 - 1 / 2 ^ 54 <= (R M + R N) / 2 * R (hlsS M N (Float64.sub M N) (Float64.div (Float64.add M N) 0x4000000000000000)) /\ (R M + R N) / 2 * R (hlsS M N (Float64.sub M N) (Float64.div (Float64.add M N) 0x4000000000000000)) <= (R M - R N) / 2 + 1 / 2 ^ 54) \/
     (1 / 2 < (R M + R N) / 2 /\ (R M - R N) / 2 - 1 / 2 ^ 54 <= (1 - (R M + R N) / 2) * R (hlsS M N (Float64.sub M N) (Float64.div (Float64.add M N) 0x4000000000000000)) /\ (1 - (R M + R N) / 2) * R (hlsS M N (Float64.sub M N) (Float64.div (Float64.add M N) 0x4000000000000000)) <= (R M - R N) / 2 + 1 / 2 ^ 54)) := by
  have hp := hS.pos; have hp0 : (0 : Rat) < (S : Rat) := by grind
  have hSi : (S : Int) <= 2 ^ 50 := by omega
  obtain ⟨t1, t2⟩ := l2; have g2 : Gr S 0x4000000000000000 (2 * (S : Int)) := ⟨t1, by rw [t2]; push_cast; grind⟩; have gS := gr_add hS hM hN (by omega); have gD := gr_sub hS hM hN (by omega); have gT := gr_sub hS (gr_sub hS g2 hM (by omega)) hN (by omega); have eM := hM.2; have eN := hN.2; have i0 : ((0 : Int) : Rat) <= (n : Rat) := Rat.intCast_le_intCast.mpr h0; have i1 : (n : Rat) < (m : Rat) := Rat.intCast_lt_intCast.mpr h1; have i2 : (m : Rat) <= ((S : Int) : Rat) := Rat.intCast_le_intCast.mpr h2; have i3 : ((m + n : Int) : Rat) < ((2 * (S : Int) : Int) : Rat) := Rat.intCast_lt_intCast.mpr h3; push_cast at i0 i1 i2 i3; have u0 : 0 <= R N := canR hp0 (by rw [eN]; grind); have u1 : R N < R M := (gr_lt hS hN hM).mpr h1; have u2 : R M <= 1 := canR hp0 (by rw [eM]; grind); have eS : R (Float64.add M N) = R M + R N := by
    refine canE hp0 ?_; rw [gS.2]; push_cast; grind
  have eT : R (Float64.sub (Float64.sub 0x4000000000000000 M) N) = 2 - R M - R N := by
    refine canE hp0 ?_; rw [gT.2]; push_cast; grind
  have eD : R (Float64.sub M N) = R M - R N := by
    refine canE hp0 ?_; rw [gD.2]; push_cast; grind
  obtain ⟨q1, -, -, q4⟩ := div_R gS.1 t1 (by rw [t2]; grind) (M := 2) ⟨1, by decide, rfl⟩ (by rw [t2, eS]; push_cast; grind) (by rw [t2, eS]; push_cast; grind); rw [t2, eS] at q4; have hl : R (Float64.div (Float64.add M N) 0x4000000000000000) = (R M + R N) / 2 := by
    refine q4 ⟨m + n, hS.e + 1, ?_, by omega, ?_⟩
    · have := hS.le; omega
    · rw [Nat.pow_succ, <- hS.eq]; push_cast; grind
  have z1 : Float64.isZero (Float64.add M N) = false := by rw [gr_zero hS gS]; simp; omega
  have z2' : Float64.isZero (Float64.sub (Float64.sub 0x4000000000000000 M) N) = false := by rw [gr_zero hS gT]; simp; omega
  obtain ⟨v1, v2⟩ := lh; refine ⟨⟨q1, hl⟩, fun _ => z1, z2', ?_⟩; unfold hlsS; rw [leB_R q1 v1, hl, v2]; have small : ∀ k : Int, 0 < k -> k <= 2 * (S : Int) -> 2 / 2 ^ 54 <= ((m - n : Int) : Rat) / (k : Rat) := by
    intro k k0 k1; have a0 : (0 : Rat) < (k : Rat) := by have := Rat.intCast_lt_intCast.mpr k0; exact_mod_cast this
    have a1 : (k : Rat) <= ((2 ^ 51 : Int) : Rat) := Rat.intCast_le_intCast.mpr (by omega); have a2 : ((1 : Int) : Rat) <= ((m - n : Int) : Rat) := Rat.intCast_le_intCast.mpr (by omega); rw [Rat.intCast_pow] at a1; have a3 : ((m - n : Int) : Rat) / (k : Rat) * (k : Rat) = ((m - n : Int) : Rat) := by grind
    refine canR a0 ?_; rw [a3]; have : ((1 : Int) : Rat) = 1 := rfl; have : ((2 : Int) : Rat) = 2 := rfl; grind
  by_cases hc : (R M + R N) / 2 <= 1 / 2
  · simp only [hc, decide_true, if_true]; obtain ⟨d1, d2, d3, -⟩ := gr_div hS gD gS (by omega) (by omega) (by omega); obtain ⟨d4, d5⟩ := frac_unit (n := m - n) (m := m + n) (by omega) (by omega) (by omega); have d6 := small (m + n) (by omega) (by omega); have d7 : ((m - n : Int) : Rat) / ((m + n : Int) : Rat) * ((R M + R N) / 2) = (R M - R N) / 2 := by
      have b0 : (0 : Rat) < ((m + n : Int) : Rat) := by
        have := Rat.intCast_lt_intCast.mpr (show (0 : Int) < m + n by omega)
        exact_mod_cast this
      have b1 : ((m - n : Int) : Rat) / ((m + n : Int) : Rat) * ((m + n : Int) : Rat) = ((m - n : Int) : Rat) := by grind
      generalize ((m - n : Int) : Rat) / ((m + n : Int) : Rat) = P at *; refine canE hp0 ?_; push_cast at b1; grind
    generalize ((m - n : Int) : Rat) / ((m + n : Int) : Rat) = P at *; generalize Float64.div (Float64.sub M N) (Float64.add M N) = s at *; have e := prodE (v := (R M + R N) / 2) (x := R s - P) (e := 1 / 2 ^ 54) (by grind) (by grind) (by grind) (by grind); clear small; exact ⟨d1, by grind, by grind, .inl ⟨trivial, by grind, by grind⟩⟩
  · simp only [hc, decide_false, Bool.false_eq_true, if_false]; obtain ⟨d1, d2, d3, -⟩ := gr_div hS gD gT (by omega) (by omega) (by omega); obtain ⟨d4, d5⟩ := frac_unit (n := m - n) (m := 2 * (S : Int) - m - n) (by omega) (by omega) (by omega); have d6 := small (2 * (S : Int) - m - n) (by omega) (by omega); have d7 : ((m - n : Int) : Rat) / ((2 * (S : Int) - m - n : Int) : Rat) * (1 - (R M + R N) / 2) = (R M - R N) / 2 := by
      have b0 : (0 : Rat) < ((2 * (S : Int) - m - n : Int) : Rat) := by
        have := Rat.intCast_lt_intCast.mpr (show (0 : Int) < 2 * (S : Int) - m - n by omega)
        exact_mod_cast this
      have b1 : ((m - n : Int) : Rat) / ((2 * (S : Int) - m - n : Int) : Rat) * ((2 * (S : Int) - m - n : Int) : Rat) = ((m - n : Int) : Rat) := by grind
      generalize ((m - n : Int) : Rat) / ((2 * (S : Int) - m - n : Int) : Rat) = P at *; refine canE hp0 ?_; push_cast at b1; grind
    generalize ((m - n : Int) : Rat) / ((2 * (S : Int) - m - n : Int) : Rat) = P at *; generalize Float64.div (Float64.sub M N) (Float64.sub (Float64.sub 0x4000000000000000 M) N) = s at *; have e := prodE (v := 1 - (R M + R N) / 2) (x := R s - P) (e := 1 / 2 ^ 54) (by grind) (by grind) (by grind) (by grind); clear small; exact ⟨d1, by grind, by grind, .inr ⟨by grind, by grind, by grind⟩⟩
end
end Mine
end
section
open PySem PySem.W PyProof.Rows
namespace Mine
section
variable {l s : UInt64} {δ : Rat}
theorem m2_R (fl : FinF l) (fs : FinF s) (l0 : 0 <= R l) (l1' : R l <= 1) (s0 : 0 <= R s) (s1 : R s <= 1 + 1 / 2 ^ 54)
    (h : (R l <= 1 / 2 /\ δ / 2 - 1 / 2 ^ 54 <= R l * R s /\ R l * R s <= δ / 2 + 1 / 2 ^ 54) \/ (1 / 2 < R l /\ δ / 2 - 1 / 2 ^ 54 <= (1 - R l) * R s /\ (1 - R l) * R s <= δ / 2 + 1 / 2 ^ 54)) :
    Nr (hlsM2 l s) (R l + δ / 2) (16 / 2 ^ 54) := by
  obtain ⟨o1, o2⟩ := l1; obtain ⟨v1, v2⟩ := lh; unfold hlsM2; rw [leB_R fl v1, v2]
  by_cases hc : R l <= 1 / 2
  · simp only [hc, decide_true, if_true]; rcases h with ⟨-, h1, h2⟩ | ⟨h0, -⟩
    · obtain ⟨a1, a2, a3, -⟩ := add_R o1 fs (M := 4) ⟨2, by decide, rfl⟩ (by rw [o2]; push_cast; grind) (by rw [o2]; push_cast; grind); rw [o2] at a2 a3; push_cast at a2 a3; generalize Float64.add 0x3ff0000000000000 s = q at *; have e := prodE l0 l1' (x := R q - (1 + R s)) (e := 4 / 2 ^ 54) (by grind) (by grind); have e' := prodE l0 l1' (x := R s) (e := 2) (by grind) (by grind); obtain ⟨b1, b2, b3, -⟩ := mul_R fl a1 (M := 4) ⟨2, by decide, rfl⟩ (by push_cast; grind) (by push_cast; grind); push_cast at b2 b3; exact ⟨b1, by grind, by grind⟩
    · grind
  · simp only [hc, decide_false, Bool.false_eq_true, if_false]; rcases h with ⟨h0, -⟩ | ⟨-, h1, h2⟩
    · exact absurd h0 hc
    · have e' := prodE l0 l1' (x := R s) (e := 3 / 2) (by grind) (by grind); obtain ⟨a1, a2, a3, -⟩ := add_R fl fs (M := 4) ⟨2, by decide, rfl⟩ (by push_cast; grind) (by push_cast; grind); push_cast at a2 a3; obtain ⟨b1, b2, b3, -⟩ := mul_R fl fs (M := 2) ⟨1, by decide, rfl⟩ (by push_cast; grind) (by push_cast; grind); push_cast at b2 b3; generalize Float64.add l s = q at *; generalize Float64.mul l s = q' at *; obtain ⟨c1, c2, c3, -⟩ := sub_R a1 b1 (M := 8) ⟨3, by decide, rfl⟩ (by push_cast; grind) (by push_cast; grind); push_cast at c2 c3; exact ⟨c1, by grind, by grind⟩
theorem m1_R {m2 : UInt64} (fl : FinF l) (l0 : 0 <= R l) (l1' : R l <= 1) (d0 : 0 <= δ) (d1 : δ <= 1) (h : Nr m2 (R l + δ / 2) (16 / 2 ^ 54)) :
    Nr (Float64.sub (Float64.mul 0x4000000000000000 l) m2) (R l - δ / 2) (32 / 2 ^ 54) := by
  obtain ⟨o1, o2⟩ := l2; obtain ⟨h1, h2, h3⟩ := h; obtain ⟨b1, b2, b3, -⟩ := mul_R o1 fl (M := 4) ⟨2, by decide, rfl⟩ (by rw [o2]; push_cast; grind) (by rw [o2]; push_cast; grind); rw [o2] at b2 b3; push_cast at b2 b3; generalize Float64.mul 0x4000000000000000 l = q at *; obtain ⟨c1, c2, c3, -⟩ := sub_R b1 h1 (M := 4) ⟨2, by decide, rfl⟩ (by push_cast; grind) (by push_cast; grind); push_cast at c2 c3; exact ⟨c1, by grind, by grind⟩
end
section
variable {m1 m2 u : UInt64} {N δ : Rat}
theorem vF_R (h1 : Nr m1 N (32 / 2 ^ 54)) (h2 : Nr m2 (N + δ) (16 / 2 ^ 54)) (n0 : 0 <= N) (n1 : N <= 1) (d0 : 0 <= δ) (d1 : N + δ <= 1) (fu : FinF u) (u0 : 0 <= R u) (u1 : R u <= 1 + 1 / 2 ^ 52) :
    Nr (vF m1 m2 u) (N + δ * hatG (6 * R u)) (1024 / 2 ^ 54) := by
  obtain ⟨f1, a1, b1⟩ := h1; obtain ⟨f2, a2, b2⟩ := h2; obtain ⟨c1, c2⟩ := l16; obtain ⟨e1, e2⟩ := lh; obtain ⟨g1, g2⟩ := l23; obtain ⟨s1, s2⟩ := l6; unfold vF; rw [ltB_R fu c1, ltB_R fu e1, ltB_R fu g1, c2, e2, g2]; obtain ⟨x1, x2, x3, -⟩ := sub_R f2 f1 (M := 2) ⟨1, by decide, rfl⟩ (by push_cast; grind) (by push_cast; grind); push_cast at x2 x3; generalize hU : R u = U at *
  by_cases k1 : U < 6004799503160661 / 2 ^ 55
  · simp only [k1, decide_true, if_true]; have hg : hatG (6 * U) = 6 * U := by unfold hatG clamp absR; grind
    rw [hg]; generalize Float64.sub m2 m1 = D at *; have p1 := prodE (v := U) u0 (by grind) (x := R D - δ) (e := 50 / 2 ^ 54) (by grind) (by grind); have p2 := prodE (v := U) u0 (by grind) (x := R D) (e := 2) (by grind) (by grind); obtain ⟨y1, y2, y3, -⟩ := mul_R x1 fu (M := 2) ⟨1, by decide, rfl⟩ (by rw [hU]; push_cast; grind) (by rw [hU]; push_cast; grind); rw [hU] at y2 y3; push_cast at y2 y3; generalize Float64.mul D u = E at *; obtain ⟨z1, z2, z3, -⟩ := mul_R y1 s1 (M := 16) ⟨4, by decide, rfl⟩ (by rw [s2]; push_cast; grind) (by rw [s2]; push_cast; grind); rw [s2] at z2 z3; push_cast at z2 z3; generalize Float64.mul E 0x4018000000000000 = G at *; have p3 := prodE (v := U) u0 (by grind) (x := δ) (e := 1) (by grind) (by grind); obtain ⟨w1, w2, w3, -⟩ := add_R f1 z1 (M := 32) ⟨5, by decide, rfl⟩ (by push_cast; grind) (by push_cast; grind); push_cast at w2 w3; exact ⟨w1, by grind, by grind⟩
  · simp only [k1, decide_false, Bool.false_eq_true, if_false]
    by_cases k2 : U < 1 / 2
    · simp only [k2, decide_true, if_true]; have hg : 1 - 6 / 2 ^ 54 <= hatG (6 * U) /\ hatG (6 * U) <= 1 := by unfold hatG clamp absR; grind
      have p := prodE d0 (by grind) (x := hatG (6 * U) - 1) (e := 6 / 2 ^ 54) (by grind) (by grind); exact ⟨f2, by grind, by grind⟩
    · simp only [k2, decide_false, Bool.false_eq_true, if_false]
      by_cases k3 : U < 6004799503160661 / 2 ^ 53
      · simp only [k3, decide_true, if_true]; have hg : hatG (6 * U) = 4 - 6 * U := by unfold hatG clamp absR; grind
        rw [hg]; generalize Float64.sub m2 m1 = D at *; obtain ⟨q1, q2, q3, -⟩ := sub_R g1 fu (M := 1) ⟨0, by decide, rfl⟩ (by rw [hU, g2]; push_cast; grind) (by rw [hU, g2]; push_cast; grind); rw [hU, g2] at q2 q3; push_cast at q2 q3; generalize Float64.sub 0x3fe5555555555555 u = T at *; have hT : 2 / 3 - U - 3 / 2 ^ 54 <= R T /\ R T <= 2 / 3 - U + 3 / 2 ^ 54 := by constructor <;> grind
        have p1 := prodE2 (v := R T) (by grind) (by grind) (x := R D - δ) (e := 50 / 2 ^ 54) (by grind) (by grind); have p2 := prodE2 (v := R T) (by grind) (by grind) (x := R D) (e := 2) (by grind) (by grind); have p4 := prodE d0 (by grind) (x := R T - (2 / 3 - U)) (e := 3 / 2 ^ 54) (by grind) (by grind); obtain ⟨y1, y2, y3, -⟩ := mul_R x1 q1 (M := 4) ⟨2, by decide, rfl⟩ (by push_cast; grind) (by push_cast; grind); push_cast at y2 y3; generalize Float64.mul D T = E at *; obtain ⟨z1, z2, z3, -⟩ := mul_R y1 s1 (M := 32) ⟨5, by decide, rfl⟩ (by rw [s2]; push_cast; grind) (by rw [s2]; push_cast; grind); rw [s2] at z2 z3; push_cast at z2 z3; generalize Float64.mul E 0x4018000000000000 = G at *; have p3 := prodE2 (v := 2 / 3 - U) (by grind) (by grind) (x := δ) (e := 1) (by grind) (by grind); obtain ⟨w1, w2, w3, -⟩ := add_R f1 z1 (M := 32) ⟨5, by decide, rfl⟩ (by push_cast; grind) (by push_cast; grind); push_cast at w2 w3; exact ⟨w1, by grind, by grind⟩
      · simp only [k3, decide_false, Bool.false_eq_true, if_false]; have hg : 0 <= hatG (6 * U) /\ hatG (6 * U) <= 12 / 2 ^ 54 := by unfold hatG clamp absR; grind
        have p := prodE d0 (by grind) (x := hatG (6 * U)) (e := 12 / 2 ^ 54) (by grind) (by grind); exact ⟨f1, by grind, by grind⟩
end
end Mine
end
section
open PySem PySem.W PyProof.Rows
namespace Mine
theorem int_lt {a b : Int} (h : (a : Rat) < (b : Rat)) : a < b := Rat.intCast_lt_intCast.mp h
theorem hat_red {u w : Rat} {j : Int} {e : Rat} (u0 : 0 <= u) (u1 : u < 6) (w0 : -e <= w) (w1 : w <= 6 + e) (e0 : 0 <= e) (e1 : e <= 1 / 8) (h0 : u + 2 - 6 * (j : Rat) - e <= w) (h1 : w <= u + 2 - 6 * (j : Rat) + e) : hatR u - 2 * e <= hatG w /\ hatG w <= hatR u + 2 * e := by
  have j0 : -1 < j := int_lt (by push_cast; grind); have j1 : j < 2 := int_lt (by push_cast; grind); have : j = 0 \/ j = 1 := by omega
  rcases this with rfl | rfl
  · push_cast at h0 h1; unfold hatG hatR clamp absR; grind
  · push_cast at h0 h1; unfold hatG hatR clamp absR; grind
theorem hat_blue {u w : Rat} {j : Int} {e : Rat} (u0 : 0 <= u) (u1 : u < 6) (w0 : -e <= w) (w1 : w <= 6 + e) (e0 : 0 <= e) (e1 : e <= 1 / 8) (h0 : u - 2 - 6 * (j : Rat) - e <= w) (h1 : w <= u - 2 - 6 * (j : Rat) + e) : hatB u - 2 * e <= hatG w /\ hatG w <= hatB u + 2 * e := by
  have j0 : -2 < j := int_lt (by push_cast; grind); have j1 : j < 1 := int_lt (by push_cast; grind); have : j = -1 \/ j = 0 := by omega
  rcases this with rfl | rfl
  · push_cast at h0 h1; unfold hatG hatB clamp absR; grind
  · push_cast at h0 h1; unfold hatG hatB clamp absR; grind
theorem hat_green {u w : Rat} {e : Rat} (e0 : 0 <= e) (h0 : u - e <= w) (h1 : w <= u + e) : hatG u - e <= hatG w /\ hatG w <= hatG u + e := by
  unfold hatG clamp absR; grind
theorem nr_hat {x : UInt64} {N δ g g' e : Rat} (d0 : 0 <= δ) (d1 : δ <= 1) (h : Nr x (N + δ * g) (1024 / 2 ^ 54)) (h0 : g' - e <= g) (h1 : g <= g' + e) (he : e <= 3072 / 2 ^ 54) : Nr x (N + δ * g') (4096 / 2 ^ 54) := by
  obtain ⟨f, a, b⟩ := h; have p := prodE d0 d1 (x := g - g') (e := e) (by grind) (by grind); exact ⟨f, by grind, by grind⟩
theorem rgbl_R {h l s : UInt64} {δ : Rat} {k : Nat} {F : Nat -> List PV -> Option PV} (hF : ∀ m1 m2 u : UInt64, F k [.flt m1, .flt m2, .flt u] = some (.flt (vF m1 m2 (Float64.divmod u Float64.one).2)))
    (fh : FinF h) (h0 : -1 <= R h) (h1 : R h <= 2) (fl : FinF l) (fs : FinF s) (n0 : 0 <= R l - δ / 2) (n1 : R l + δ / 2 <= 1) (d0 : 0 < δ) (s0 : 0 < R s) (s1 : R s <= 1 + 1 / 2 ^ 54)
    (hw : (R l <= 1 / 2 /\ δ / 2 - 1 / 2 ^ 54 <= R l * R s /\ R l * R s <= δ / 2 + 1 / 2 ^ 54) \/ (1 / 2 < R l /\ δ / 2 - 1 / 2 ^ 54 <= (1 - R l) * R s /\ (1 - R l) * R s <= δ / 2 + 1 / 2 ^ 54)) :
    ∃ c, denF F (Co.f_hls_to_rgb k) [.flt h, .flt l, .flt s] = some (.tup c) /\ ∃ (u : Rat) (m : Int), 0 <= u /\ u < 6 /\ Hats c (R l - δ / 2) δ u (4096 / 2 ^ 54) /\ 6 * R h - 6 * m - 1024 / 2 ^ 54 <= u /\ u <= 6 * R h - 6 * m + 1024 / 2 ^ 54 := by
  have hs : eqB s 0 = false := by
    unfold eqB; rw [cmp_of fs l0.1, l0.2]; split
    · rfl
    · rw [if_neg (by grind)]; rfl
  refine ⟨_, rgbl_ne hs hF, ?_⟩; have hm2 := m2_R (δ := δ) fl fs (by grind) (by grind) (by grind) s1 hw; have hm1 := m1_R (δ := δ) fl (by grind) (by grind) (by grind) (by grind) hm2; generalize hlsM2 l s = m2 at *; generalize Float64.sub (Float64.mul 0x4000000000000000 l) m2 = m1 at *; obtain ⟨t1, t2⟩ := l13; obtain ⟨a1, a2, a3, -⟩ := add_R fh t1 (M := 4) ⟨2, by decide, rfl⟩ (by rw [t2]; push_cast; grind) (by rw [t2]; push_cast; grind); obtain ⟨b1, b2, b3, -⟩ := sub_R fh t1 (M := 4) ⟨2, by decide, rfl⟩ (by rw [t2]; push_cast; grind) (by rw [t2]; push_cast; grind); rw [t2] at a2 a3 b2 b3; push_cast at a2 a3 b2 b3; generalize Float64.add h 0x3fd5555555555555 = hr at *; generalize Float64.sub h 0x3fd5555555555555 = hb at *; obtain ⟨p1, p2, n, p3, p4, p5, p6, -⟩ := mod_one fh; obtain ⟨q1, q2, nr, q3, q4, q5, q6, -⟩ := mod_one a1; obtain ⟨r1, r2, nb, r3, r4, r5, r6, -⟩ := mod_one b1; have e2 : R l + δ / 2 = (R l - δ / 2) + δ := by grind
  rw [e2] at hm2; have vg := vF_R hm1 hm2 n0 (by grind) (by grind) (by grind) p1 p2 (by grind); have vr := vF_R hm1 hm2 n0 (by grind) (by grind) (by grind) q1 q2 (by grind); have vb := vF_R hm1 hm2 n0 (by grind) (by grind) (by grind) r1 r2 (by grind); generalize (Float64.divmod h Float64.one).2 = ug at *; generalize (Float64.divmod hr Float64.one).2 = ur at *; generalize (Float64.divmod hb Float64.one).2 = ub at *; generalize vF m1 m2 ug = xg at *; generalize vF m1 m2 ur = xr at *; generalize vF m1 m2 ub = xb at *; clear hm1 hm2 hw hF hs; refine ⟨6 * (R h - n), n, by grind, by grind, ⟨_, _, _, rfl, ?_, ?_, ?_⟩, by grind, by grind⟩
  · obtain ⟨z1, z2⟩ := hat_red (u := 6 * (R h - n)) (w := 6 * R ur) (j := nr - n) (e := 64 / 2 ^ 54) (by grind) (by grind) (by grind) (by grind) (by grind) (by grind) (by push_cast; grind) (by push_cast; grind); exact nr_hat (by grind) (by grind) vr (e := 128 / 2 ^ 54) (by grind) (by grind) (by grind)
  · obtain ⟨z1, z2⟩ := hat_green (u := 6 * (R h - n)) (w := 6 * R ug) (e := 64 / 2 ^ 54) (by grind) (by grind) (by grind); exact nr_hat (by grind) (by grind) vg (e := 64 / 2 ^ 54) (by grind) (by grind) (by grind)
  · obtain ⟨z1, z2⟩ := hat_blue (u := 6 * (R h - n)) (w := 6 * R ub) (j := nb - n) (e := 64 / 2 ^ 54) (by grind) (by grind) (by grind) (by grind) (by grind) (by grind) (by push_cast; grind) (by push_cast; grind); exact nr_hat (by grind) (by grind) vb (e := 128 / 2 ^ 54) (by grind) (by grind) (by grind)
end Mine
end
section
open PySem PySem.W PyProof.Rows
namespace Mine
def rot (Z A B C : Int) : Nat -> Int × Int × Int
  | 0 => (A, B, C)
  | t + 1 => (Z - (rot Z A B C t).2.1, Z - (rot Z A B C t).2.2, Z - (rot Z A B C t).1)
theorem hat_step {w w' : Rat} (h0 : 0 <= w) (h1 : w < 6) (h : w' = (if w < 5 then w + 1 else w - 5)) : hatR w' = 1 - hatG w /\ hatG w' = 1 - hatB w /\ hatB w' = 1 - hatR w := by
  subst h; unfold hatR hatG hatB clamp absR; refine ⟨?_, ?_, ?_⟩ <;> grind
theorem hat_base {A B C : Int} (hd : min3 A B C < max3 A B C) : ∃ (w : Rat) (j : Int), 0 <= w /\ w < 6 /\ w = hueQ A B C - 6 * j /\
    (A : Rat) = (min3 A B C : Rat) + ((max3 A B C - min3 A B C : Int) : Rat) * hatR w /\ (B : Rat) = (min3 A B C : Rat) + ((max3 A B C - min3 A B C : Int) : Rat) * hatG w /\ (C : Rat) = (min3 A B C : Rat) + ((max3 A B C - min3 A B C : Int) : Rat) * hatB w := by
  obtain ⟨m1, m2, m3, m4⟩ := max3_spec A B C; obtain ⟨n1, n2, n3, n4⟩ := min3_spec A B C; unfold hueQ; generalize max3 A B C = M at *; generalize min3 A B C = N at *; have dpos : (0 : Rat) < ((M - N : Int) : Rat) := by
    have := Rat.intCast_lt_intCast.mpr (show (0 : Int) < M - N by omega)
    exact_mod_cast this
  have share : ∀ X : Int, N <= X -> X <= M -> ∃ q : Rat, ((X - N : Int) : Rat) / ((M - N : Int) : Rat) = q /\ 0 <= q /\ q <= 1 /\ (X : Rat) = (N : Rat) + ((M - N : Int) : Rat) * q := by
    intro X h0 h1; refine ⟨_, rfl, ?_⟩; obtain ⟨u1, u2⟩ := frac_unit (n := X - N) (m := M - N) (by omega) (by omega) (by omega); refine ⟨u1, u2, ?_⟩; have : ((X - N : Int) : Rat) / ((M - N : Int) : Rat) * ((M - N : Int) : Rat) = ((X - N : Int) : Rat) := by grind
    generalize ((X - N : Int) : Rat) / ((M - N : Int) : Rat) = Q at *; push_cast at this ⊢; grind
  have top : (M : Rat) = (N : Rat) + ((M - N : Int) : Rat) * 1 := by push_cast; grind
  by_cases hA : A = M
  · rw [if_pos hA]
    by_cases hC : C = N
    · obtain ⟨q, e, q0, q1, h⟩ := share B n2 m2; refine ⟨q, 0, q0, by grind, by rw [hC, e]; push_cast; grind, ?_⟩; have hr : hatR q = 1 /\ hatG q = q /\ hatB q = 0 := by unfold hatR hatG hatB clamp absR; refine ⟨?_, ?_, ?_⟩ <;> grind
      rw [hr.1, hr.2.1, hr.2.2]; exact ⟨by rw [hA]; exact top, h, by rw [hC]; grind⟩
    · have hB : B = N := by omega
      obtain ⟨q, e, q0, q1, h⟩ := share C n3 m3; have e' : ((B - C : Int) : Rat) / ((M - N : Int) : Rat) = -q := by rw [<- e, hB]; push_cast; grind
      by_cases hq : q = 0
      · exfalso; rw [hq] at h; have : (C : Rat) = (N : Rat) := by grind
        exact hC (by exact_mod_cast this)
      · refine ⟨6 - q, -1, by grind, by grind, by rw [e']; push_cast; grind, ?_⟩; have hr : hatR (6 - q) = 1 /\ hatG (6 - q) = 0 /\ hatB (6 - q) = q := by unfold hatR hatG hatB clamp absR; refine ⟨?_, ?_, ?_⟩ <;> grind
        rw [hr.1, hr.2.1, hr.2.2]; exact ⟨by rw [hA]; exact top, by rw [hB]; grind, h⟩
  · rw [if_neg hA]
    by_cases hB : B = M
    · rw [if_pos hB]
      by_cases hC : C = N
      · obtain ⟨q, e, q0, q1, h⟩ := share A n1 m1; have e' : ((C - A : Int) : Rat) / ((M - N : Int) : Rat) = -q := by rw [<- e, hC]; push_cast; grind
        refine ⟨2 - q, 0, by grind, by grind, by rw [e']; push_cast; grind, ?_⟩; have hr : hatR (2 - q) = q /\ hatG (2 - q) = 1 /\ hatB (2 - q) = 0 := by unfold hatR hatG hatB clamp absR; refine ⟨?_, ?_, ?_⟩ <;> grind
        rw [hr.1, hr.2.1, hr.2.2]; exact ⟨h, by rw [hB]; exact top, by rw [hC]; grind⟩
      · have hA' : A = N := by omega
        obtain ⟨q, e, q0, q1, h⟩ := share C n3 m3; have e' : ((C - A : Int) : Rat) / ((M - N : Int) : Rat) = q := by rw [<- e, hA']
        refine ⟨2 + q, 0, by grind, by grind, by rw [e']; push_cast; grind, ?_⟩; have hr : hatR (2 + q) = 0 /\ hatG (2 + q) = 1 /\ hatB (2 + q) = q := by unfold hatR hatG hatB clamp absR; refine ⟨?_, ?_, ?_⟩ <;> grind
        rw [hr.1, hr.2.1, hr.2.2]; exact ⟨by rw [hA']; grind, by rw [hB]; exact top, h⟩
    · rw [if_neg hB]; have hC : C = M := by omega
      by_cases hA' : A = N
      · obtain ⟨q, e, q0, q1, h⟩ := share B n2 m2; have e' : ((A - B : Int) : Rat) / ((M - N : Int) : Rat) = -q := by rw [<- e, hA']; push_cast; grind
        refine ⟨4 - q, 0, by grind, by grind, by rw [e']; push_cast; grind, ?_⟩; have hr : hatR (4 - q) = 0 /\ hatG (4 - q) = q /\ hatB (4 - q) = 1 := by unfold hatR hatG hatB clamp absR; refine ⟨?_, ?_, ?_⟩ <;> grind
        rw [hr.1, hr.2.1, hr.2.2]; exact ⟨by rw [hA']; grind, h, by rw [hC]; exact top⟩
      · have hB' : B = N := by omega
        obtain ⟨q, e, q0, q1, h⟩ := share A n1 m1; have e' : ((A - B : Int) : Rat) / ((M - N : Int) : Rat) = q := by rw [<- e, hB']
        refine ⟨4 + q, 0, by grind, by grind, by rw [e']; push_cast; grind, ?_⟩; have hr : hatR (4 + q) = q /\ hatG (4 + q) = 0 /\ hatB (4 + q) = 1 := by unfold hatR hatG hatB clamp absR; refine ⟨?_, ?_, ?_⟩ <;> grind
        rw [hr.1, hr.2.1, hr.2.2]; exact ⟨h, by rw [hB']; grind, by rw [hC]; exact top⟩
theorem hat_rot {A B C : Int} (hd : min3 A B C < max3 A B C) : ∀ t : Nat, ∃ (w : Rat) (j : Int), 0 <= w /\ w < 6 /\ w = hueQ A B C + (t : Rat) - 6 * j /\
    ((rot (max3 A B C + min3 A B C) A B C t).1 : Rat) = (min3 A B C : Rat) + ((max3 A B C - min3 A B C : Int) : Rat) * hatR w /\
    ((rot (max3 A B C + min3 A B C) A B C t).2.1 : Rat) = (min3 A B C : Rat) + ((max3 A B C - min3 A B C : Int) : Rat) * hatG w /\
    ((rot (max3 A B C + min3 A B C) A B C t).2.2 : Rat) = (min3 A B C : Rat) + ((max3 A B C - min3 A B C : Int) : Rat) * hatB w
  | 0 => by
    obtain ⟨w, j, h0, h1, h2, h3⟩ := hat_base hd; exact ⟨w, j, h0, h1, by rw [h2]; push_cast; grind, h3⟩
  | t + 1 => by
    obtain ⟨w, j, h0, h1, h2, h3, h4, h5⟩ := hat_rot hd t; obtain ⟨s1, s2, s3⟩ := hat_step h0 h1 rfl; have hj : ∃ j' : Int, (if w < 5 then w + 1 else w - 5) = hueQ A B C + ((t + 1 : Nat) : Rat) - 6 * j' := by
      by_cases h : w < 5
      · rw [if_pos h]; exact ⟨j, by rw [h2]; push_cast; grind⟩
      · rw [if_neg h]; exact ⟨j + 1, by rw [h2]; push_cast; grind⟩
    obtain ⟨j', hj⟩ := hj; refine ⟨_, j', ?_, ?_, hj, ?_, ?_, ?_⟩
    · split <;> grind
    · split <;> grind
    · rw [s1]; simp only [rot]; push_cast; rw [h4]; push_cast; grind
    · rw [s2]; simp only [rot]; push_cast; rw [h5]; push_cast; grind
    · rw [s3]; simp only [rot]; push_cast; rw [h3]; push_cast; grind
theorem hat_close {u w e : Rat} {j : Int} (u0 : 0 <= u) (u1 : u < 6) (w0 : 0 <= w) (w1 : w < 6) (e0 : 0 <= e) (e1 : e <= 1 / 8) (h0 : w - 6 * (j : Rat) - e <= u) (h1 : u <= w - 6 * (j : Rat) + e) :
    (hatR w - e <= hatR u /\ hatR u <= hatR w + e) /\ (hatG w - e <= hatG u /\ hatG u <= hatG w + e) /\ (hatB w - e <= hatB u /\ hatB u <= hatB w + e) := by
  have j0 : -2 < j := int_lt (by push_cast; grind); have j1 : j < 2 := int_lt (by push_cast; grind); have : j = -1 \/ j = 0 \/ j = 1 := by omega
  rcases this with rfl | rfl | rfl <;> push_cast at h0 h1 <;> (unfold hatR hatG hatB clamp absR; refine ⟨?_, ?_, ?_⟩ <;> grind)
theorem hats_rot {S : Nat} (hS : (1 : Rat) <= (S : Rat)) {A B C : Int} (hd : min3 A B C < max3 A B C) {t : Nat} {l : List PV} {n δ u η e : Rat} {m : Int} (hn : n * S = (min3 A B C : Rat)) (hδ : δ * S = ((max3 A B C - min3 A B C : Int) : Rat)) (d1 : δ <= 1)
    (h : Hats l n δ u η) (u0 : 0 <= u) (u1 : u < 6) (e0 : 0 <= e) (e1 : e <= 1 / 8) (h0 : hueQ A B C + (t : Rat) - 6 * (m : Rat) - e <= u) (h1 : u <= hueQ A B C + (t : Rat) - 6 * (m : Rat) + e) :
    ∃ x y z : UInt64, l = [.flt x, .flt y, .flt z] /\ Nr x (((rot (max3 A B C + min3 A B C) A B C t).1 : Rat) / S) (η + e) /\ Nr y (((rot (max3 A B C + min3 A B C) A B C t).2.1 : Rat) / S) (η + e) /\ Nr z (((rot (max3 A B C + min3 A B C) A B C t).2.2 : Rat) / S) (η + e) := by
  obtain ⟨w, j, w0, w1, h2, h3, h4, h5⟩ := hat_rot hd t; obtain ⟨⟨r1, r2⟩, ⟨g1, g2⟩, ⟨b1, b2⟩⟩ := hat_close (j := m - j) u0 u1 w0 w1 e0 e1 (by push_cast; grind) (by push_cast; grind); obtain ⟨x, y, z, hl, hx, hy, hz⟩ := h; have hp : (0 : Rat) < (S : Rat) := by grind
  have dpos : 0 <= δ := by
    refine canR hp ?_; rw [hδ, Rat.zero_mul]; have := Rat.intCast_lt_intCast.mpr (show (0 : Int) < max3 A B C - min3 A B C by omega); have h0 : ((0 : Int) : Rat) = 0 := rfl; grind
  have key : ∀ {x : UInt64} {v : Int} {g g' : Rat}, Nr x (n + δ * g) η -> (v : Rat) = (min3 A B C : Rat) + ((max3 A B C - min3 A B C : Int) : Rat) * g' -> g' - e <= g -> g <= g' + e -> Nr x ((v : Rat) / S) (η + e) := by
    intro x v g g' ⟨f, a, b⟩ hv k1 k2; have ev : (v : Rat) / S = n + δ * g' := by
      rw [hv, <- hn, <- hδ]; have : (n * S + δ * S * g') = (n + δ * g') * S := by grind
      rw [this]; grind
    rw [ev]; have p := prodE dpos d1 (x := g - g') (e := e) (by grind) (by grind); exact ⟨f, by grind, by grind⟩
  exact ⟨x, y, z, hl, key hx h3 r1 r2, key hy h4 g1 g2, key hz h5 b1 b2⟩
end Mine
end
section
open PySem PySem.W PyProof.Rows
namespace Mine
def fq (x y : Int) : UInt64 := Float64.ofFrac (decide (x < 0) != decide (y < 0)) x.natAbs y.natAbs
theorem b_div_ii (x y : Int) (hy : 0 < y) (h : FinF (fq x y)) : binF .Div (.int x) (.int y) = some (.flt (fq x y)) := by
  show (if _ then _ else _) = _; rw [if_pos]
  · rfl
  · refine ⟨hy, ?_⟩; obtain ⟨a, m, e, hd⟩ := h; unfold fq at hd; unfold Float64.isInf; rw [hd]
theorem fq_R {x : Int} {y : Nat} (hy : 0 < y) {M : Nat} (p : Pw M) (h : x.natAbs <= y * M) : FinF (fq x (y : Int)) /\ (x : Rat) / (y : Rat) - (M : Rat) / 2 ^ 54 <= R (fq x (y : Int)) /\ R (fq x (y : Int)) <= (x : Rat) / (y : Rat) + (M : Rat) / 2 ^ 54 /\ (Dy ((x : Rat) / (y : Rat)) -> R (fq x (y : Int)) = (x : Rat) / (y : Rat)) := by
  have := frac_R (n := x.natAbs) (d := y) (s := decide (x < 0)) hy p h; rw [sgn_lt] at this; unfold fq; have e : (decide (x < 0) != decide ((y : Int) < 0)) = decide (x < 0) := by
    have : decide ((y : Int) < 0) = false := by simp
    rw [this]; simp
  rw [e, Int.natAbs_natCast]; exact this
theorem fq_gr {S : Nat} (hS : Sc S) {x : Int} (h : x.natAbs <= 2 ^ 53) : Gr S (fq x (S : Int)) x := by
  have h0 : 0 < S := by rw [hS.eq]; exact Nat.two_pow_pos _
  have hp : (0 : Rat) < (S : Rat) := by have := hS.pos; grind
  obtain ⟨a, -, -, d⟩ := fq_R (x := x) h0 (M := 2 ^ 53) ⟨53, by decide, rfl⟩ (Nat.le_trans h (Nat.le_mul_of_pos_left _ h0)); have e : (x : Rat) / (S : Rat) * (S : Rat) = x := by grind
  refine ⟨a, ?_⟩; rw [d (hS.dy e h)]; exact e
structure Hsv (S : Nat) (A B C : Int) (h s v : UInt64) : Prop where
  fh : FinF h
  fs : FinF s
  fv : FinF v
  lv : R v * (S : Rat) = ((max3 A B C : Int) : Rat)
  h0 : 0 <= R h
  h1 : R h <= 1 + 1 / 2 ^ 52
  hue : ∃ n : Int, hueQ A B C - 6 * n - 1 / 2 ^ 49 <= 6 * R h /\ 6 * R h <= hueQ A B C - 6 * n + 1 / 2 ^ 49
  s0 : 0 < R s
  s1 : R s <= 1 + 1 / 2 ^ 54
  w1 : ((max3 A B C - min3 A B C : Int) : Rat) / (S : Rat) - 1 / 2 ^ 54 <= R v * R s
  w2 : R v * R s <= ((max3 A B C - min3 A B C : Int) : Rat) / (S : Rat) + 1 / 2 ^ 54
theorem least {k d : Int} (hk : 1 <= k) (hd : 0 < d) (h : d <= 2 ^ 50) : 1 / 2 ^ 50 <= (k : Rat) / (d : Rat) := by
  have a0 : (0 : Rat) < (d : Rat) := by have := Rat.intCast_lt_intCast.mpr hd; exact_mod_cast this
  have a1 := Rat.intCast_le_intCast.mpr h; have a2 := Rat.intCast_le_intCast.mpr hk; rw [Rat.intCast_pow] at a1; have a3 : (k : Rat) / (d : Rat) * (d : Rat) = (k : Rat) := by grind
  refine canR a0 ?_; rw [a3]; have : ((1 : Int) : Rat) = 1 := rfl; have : ((2 : Int) : Rat) = 2 := rfl; grind
section
variable {S : Nat} {r g b : UInt64} {A B C : Int} {F : Nat -> List PV -> Option PV}
theorem hsv_R (hS : Sc S) (hS2 : S <= 2 ^ 50) (hr : Gr S r A) (hg : Gr S g B) (hb : Gr S b C) (hA : 0 <= A /\ A <= S) (hB : 0 <= B /\ B <= S) (hC : 0 <= C /\ C <= S) (hd : min3 A B C < max3 A B C) :
    ∃ s v, denF F Co.f_rgb_to_hsv [.flt r, .flt g, .flt b] = some (.tup [.flt (hueF r g b), .flt s, .flt v]) /\ Hsv S A B C (hueF r g b) s v := by
  have gM := gr_mx hS hr hg hb; have gN := gr_mn hS hr hg hb; obtain ⟨m1, m2, m3, m4⟩ := max3_spec A B C; obtain ⟨n1, n2, n3, n4⟩ := min3_spec A B C; have gD := gr_sub hS gM gN (by omega); have heq : eqB (mn3 r g b) (mx3 r g b) = false := by rw [gr_eqB hS gN gM]; simp; omega
  have zM : Float64.isZero (mx3 r g b) = false := by rw [gr_zero hS gM]; simp; omega
  have zD : Float64.isZero (Float64.sub (mx3 r g b) (mn3 r g b)) = false := by rw [gr_zero hS gD]; simp; omega
  obtain ⟨f1, f2, f3, f4⟩ := hueF_R hS hr hg hb ⟨hA.1, by omega⟩ ⟨hB.1, by omega⟩ ⟨hC.1, by omega⟩ hd; refine ⟨_, _, hsv_ne heq zM zD, ?_⟩; obtain ⟨d1, d2, d3, -⟩ := gr_div hS gD gM (by omega) (by omega) (by omega); obtain ⟨d4, d5⟩ := frac_unit (n := max3 A B C - min3 A B C) (m := max3 A B C) (by omega) (by omega) (by omega); have hp : (0 : Rat) < (S : Rat) := by have := hS.pos; grind
  have hl := least (k := max3 A B C - min3 A B C) (d := max3 A B C) (by omega) (by omega) (by omega); have hm : (0 : Rat) < ((max3 A B C : Int) : Rat) := by
    have := Rat.intCast_lt_intCast.mpr (show 0 < max3 A B C by omega)
    exact_mod_cast this
  have hmS : ((max3 A B C : Int) : Rat) <= (S : Rat) := by
    have := Rat.intCast_le_intCast.mpr (show max3 A B C <= (S : Int) by omega)
    exact_mod_cast this
  have e1 : R (mx3 r g b) * (((max3 A B C - min3 A B C : Int) : Rat) / ((max3 A B C : Int) : Rat)) = ((max3 A B C - min3 A B C : Int) : Rat) / (S : Rat) := by
    have q1 : ((max3 A B C - min3 A B C : Int) : Rat) / ((max3 A B C : Int) : Rat) * ((max3 A B C : Int) : Rat) = ((max3 A B C - min3 A B C : Int) : Rat) := by grind
    have q2 : ((max3 A B C - min3 A B C : Int) : Rat) / (S : Rat) * (S : Rat) = ((max3 A B C - min3 A B C : Int) : Rat) := by grind
    have q3 := gM.2; generalize ((max3 A B C - min3 A B C : Int) : Rat) / ((max3 A B C : Int) : Rat) = P at *; generalize ((max3 A B C - min3 A B C : Int) : Rat) / (S : Rat) = Q at *; refine canE hp ?_; rw [q2, <- q1, <- q3]; grind
  have v0 : 0 <= R (mx3 r g b) := canR hp (by rw [gM.2, Rat.zero_mul]; exact Rat.le_of_lt hm); have v1 : R (mx3 r g b) <= 1 := canR hp (by rw [gM.2, Rat.one_mul]; exact hmS); generalize ((max3 A B C - min3 A B C : Int) : Rat) / ((max3 A B C : Int) : Rat) = P at *; have p := prodE v0 v1 (x := R (Float64.div (Float64.sub (mx3 r g b) (mn3 r g b)) (mx3 r g b)) - P) (e := 1 / 2 ^ 54) (by grind) (by grind); exact ⟨f1, d1, gM.1, gM.2, f2, f3, f4, by grind, by grind, by grind, by grind⟩
theorem hsv_grey (hS : Sc S) (hr : Gr S r A) (hg : Gr S g A) (hb : Gr S b A) :
    ∃ v, denF F Co.f_rgb_to_hsv [.flt r, .flt g, .flt b] = some (.tup [.flt 0, .flt 0, .flt v]) /\ Gr S v A := by
  have gM := gr_mx hS hr hg hb; have gN := gr_mn hS hr hg hb; have e1 : max3 A A A = A := by unfold max3; simp
  have e2 : min3 A A A = A := by unfold min3; simp
  rw [e1] at gM; rw [e2] at gN; exact ⟨_, hsv_eq (by rw [gr_eqB hS gN gM]; simp), gM⟩
end
theorem rgbv_grey {h v : UInt64} {F : Nat -> List PV -> Option PV} : denF F Co.f_hsv_to_rgb [.flt h, .flt 0, .flt v] = some (.tup [.flt v, .flt v, .flt v]) :=
  rgbv_eq (by decide +kernel)
theorem rgbl_grey {h l : UInt64} {k : Nat} {F : Nat -> List PV -> Option PV} : denF F (Co.f_hls_to_rgb k) [.flt h, .flt l, .flt 0] = some (.tup [.flt l, .flt l, .flt l]) :=
  rgbl_eq (by decide +kernel)
theorem turn_hsv {S : Nat} {A B C : Int} {h h' s v : UInt64} {t : Nat} {F : Nat -> List PV -> Option PV} {e : Rat} {m : Int} (hS : Sc S) (hx : Hsv S A B C h s v) (hd : min3 A B C < max3 A B C) (hmn : 0 <= min3 A B C) (hmx : max3 A B C <= S)
    (fh : FinF h') (h0 : 0 <= R h') (h1 : R h' <= 100) (e0 : 0 <= e) (e1 : e <= 1 / 2 ^ 42) (k0 : 6 * R h + (t : Rat) - 6 * m - e <= 6 * R h') (k1 : 6 * R h' <= 6 * R h + (t : Rat) - 6 * m + e) :
    ∃ x y z : UInt64, denF F Co.f_hsv_to_rgb [.flt h', .flt s, .flt v] = some (.tup [.flt x, .flt y, .flt z]) /\
      Nr x (((rot (max3 A B C + min3 A B C) A B C t).1 : Rat) / S) (1 / 2 ^ 41) /\ Nr y (((rot (max3 A B C + min3 A B C) A B C t).2.1 : Rat) / S) (1 / 2 ^ 41) /\ Nr z (((rot (max3 A B C + min3 A B C) A B C t).2.2 : Rat) / S) (1 / 2 ^ 41) := by
  have hp1 := hS.pos; have hp : (0 : Rat) < (S : Rat) := by grind
  have i0 : (0 : Rat) <= ((min3 A B C : Int) : Rat) := by have := Rat.intCast_le_intCast.mpr hmn; exact_mod_cast this
  have i1 : ((min3 A B C : Int) : Rat) < ((max3 A B C : Int) : Rat) := Rat.intCast_lt_intCast.mpr hd; have i2 : ((max3 A B C : Int) : Rat) <= (S : Rat) := by have := Rat.intCast_le_intCast.mpr hmx; exact_mod_cast this
  have eD : ((max3 A B C - min3 A B C : Int) : Rat) / (S : Rat) * (S : Rat) = ((max3 A B C - min3 A B C : Int) : Rat) := by grind
  have hv := hx.lv; have w1 := hx.w1; have w2 := hx.w2; obtain ⟨n, hu0, hu1⟩ := hx.hue; generalize ((max3 A B C - min3 A B C : Int) : Rat) / (S : Rat) = δ at *; have eD' := eD; rw [Rat.intCast_sub] at eD'; have v0 : 0 <= R v := canR hp (by rw [hv, Rat.zero_mul]; grind); have v1 : R v <= 1 := canR hp (by rw [hv, Rat.one_mul]; exact i2); have d0 : 0 < δ := Rat.lt_of_mul_lt_mul_right (c := (S : Rat)) (by rw [eD', Rat.zero_mul]; grind) (Rat.le_of_lt hp); have d1 : δ <= 1 := canR hp (by rw [eD', Rat.one_mul]; grind); obtain ⟨l, hl, u, m', u0, u1, hh, u2, u3⟩ := rgbv_R (F := F) fh hx.fv hx.fs h0 h1 v0 v1 d0 d1 hx.s0 hx.s1 w1 w2; obtain ⟨x, y, z, rfl, hx', hy', hz'⟩ := hats_rot (S := S) hp1 hd (t := t) (n := R v - δ) (δ := δ) (e := 1 / 2 ^ 41 - 32 / 2 ^ 54) (m := m + m' + n) (by grind) eD d1 hh u0 u1 (by grind) (by grind) (by push_cast; grind) (by push_cast; grind); have e3 : (32 / 2 ^ 54 + (1 / 2 ^ 41 - 32 / 2 ^ 54) : Rat) = 1 / 2 ^ 41 := by grind
  rw [e3] at hx' hy' hz'; exact ⟨x, y, z, hl, hx', hy', hz'⟩
end Mine
end
section
open PySem PySem.W PyProof.Rows
namespace Mine
structure Hls (S : Nat) (A B C : Int) (h l s : UInt64) : Prop where
  fh : FinF h
  fl : FinF l
  fs : FinF s
  lv : R l = (((max3 A B C : Int) : Rat) / (S : Rat) + ((min3 A B C : Int) : Rat) / (S : Rat)) / 2
  h0 : 0 <= R h
  h1 : R h <= 1 + 1 / 2 ^ 52
  hue : ∃ n : Int, hueQ A B C - 6 * n - 1 / 2 ^ 49 <= 6 * R h /\ 6 * R h <= hueQ A B C - 6 * n + 1 / 2 ^ 49
  s0 : 0 < R s
  s1 : R s <= 1 + 1 / 2 ^ 54
  w : (R l <= 1 / 2 /\ (((max3 A B C : Int) : Rat) / (S : Rat) - ((min3 A B C : Int) : Rat) / (S : Rat)) / 2 - 1 / 2 ^ 54 <= R l * R s /\ R l * R s <= (((max3 A B C : Int) : Rat) / (S : Rat) - ((min3 A B C : Int) : Rat) / (S : Rat)) / 2 + 1 / 2 ^ 54) \/
    (1 / 2 < R l /\ (((max3 A B C : Int) : Rat) / (S : Rat) - ((min3 A B C : Int) : Rat) / (S : Rat)) / 2 - 1 / 2 ^ 54 <= (1 - R l) * R s /\ (1 - R l) * R s <= (((max3 A B C : Int) : Rat) / (S : Rat) - ((min3 A B C : Int) : Rat) / (S : Rat)) / 2 + 1 / 2 ^ 54)
section
variable {S : Nat} {r g b : UInt64} {A B C : Int} {F : Nat -> List PV -> Option PV}
theorem hls_full (hS : Sc S) (hS2 : S <= 2 ^ 50) (hr : Gr S r A) (hg : Gr S g B) (hb : Gr S b C) (hA : 0 <= A /\ A <= S) (hB : 0 <= B /\ B <= S) (hC : 0 <= C /\ C <= S) (hd : min3 A B C < max3 A B C) :
    ∃ l s, denF F Co.f_rgb_to_hls [.flt r, .flt g, .flt b] = some (.tup [.flt (hueF r g b), .flt l, .flt s]) /\ Hls S A B C (hueF r g b) l s := by
  have gM := gr_mx hS hr hg hb; have gN := gr_mn hS hr hg hb; obtain ⟨m1, m2, m3, m4⟩ := max3_spec A B C; obtain ⟨n1, n2, n3, n4⟩ := min3_spec A B C; have gD := gr_sub hS gM gN (by omega); have heq : eqB (mn3 r g b) (mx3 r g b) = false := by rw [gr_eqB hS gN gM]; simp; omega
  have zD : Float64.isZero (Float64.sub (mx3 r g b) (mn3 r g b)) = false := by rw [gr_zero hS gD]; simp; omega
  obtain ⟨f1, f2, f3, f4⟩ := hueF_R hS hr hg hb ⟨hA.1, by omega⟩ ⟨hB.1, by omega⟩ ⟨hC.1, by omega⟩ hd; obtain ⟨⟨l1', l2'⟩, z1', z2', s1, s2, s3, s4⟩ := hls_R hS gM gN (by omega) hd (by omega) (by omega) hS2; refine ⟨_, _, hls_ne heq zD (fun hle => z1' (by rw [leB_R l1' lh.1, lh.2] at hle; simpa using hle)) (fun _ => z2'), ?_⟩; have hp : (0 : Rat) < (S : Rat) := by have := hS.pos; grind
  have eM : R (mx3 r g b) = ((max3 A B C : Int) : Rat) / (S : Rat) := by
    refine canE hp ?_; rw [gM.2]; grind
  have eN : R (mn3 r g b) = ((min3 A B C : Int) : Rat) / (S : Rat) := by
    refine canE hp ?_; rw [gN.2]; grind
  rw [<- l2'] at s4; rw [eM, eN] at l2' s4; exact ⟨f1, l1', s1, l2', f2, f3, f4, s2, s3, s4⟩
theorem hls_grey (hS : Sc S) (hr : Gr S r A) (hg : Gr S g A) (hb : Gr S b A) (hA : 0 <= A /\ A <= 2 ^ 50) :
    ∃ v, denF F Co.f_rgb_to_hls [.flt r, .flt g, .flt b] = some (.tup [.flt 0, .flt v, .flt 0]) /\ Gr S v A := by
  have gM := gr_mx hS hr hg hb; have gN := gr_mn hS hr hg hb; have e1 : max3 A A A = A := by unfold max3; simp
  have e2 : min3 A A A = A := by unfold min3; simp
  rw [e1] at gM; rw [e2] at gN; refine ⟨_, hls_eq (by rw [gr_eqB hS gN gM]; simp), ?_⟩; have gS := gr_add hS gM gN (by omega); obtain ⟨t1, t2⟩ := l2; have hp1 := hS.pos; have hp : (0 : Rat) < (S : Rat) := by grind
  have h0 : ((0 : Int) : Rat) <= ((A + A : Int) : Rat) := Rat.intCast_le_intCast.mpr (by omega); have h00 : ((0 : Int) : Rat) = 0 := rfl; have hA2 : ((A + A : Int) : Rat) <= ((2 ^ 51 : Int) : Rat) := Rat.intCast_le_intCast.mpr (by omega); rw [Rat.intCast_pow] at hA2; have h2 : ((2 : Int) : Rat) = 2 := rfl; have hb0 : 0 <= R (Float64.add (mx3 r g b) (mn3 r g b)) := canR hp (by rw [gS.2, Rat.zero_mul]; grind); have hb1 : R (Float64.add (mx3 r g b) (mn3 r g b)) <= 2 ^ 52 := le_of_scale hp1 (by grind) (by rw [gS.2]; grind); have gS2 := gS.2; obtain ⟨q1, -, -, q4⟩ := div_R gS.1 t1 (by rw [t2]; grind) (M := 2 ^ 53) ⟨53, by decide, rfl⟩ (by rw [t2]; push_cast; grind) (by rw [t2]; push_cast; grind); rw [t2] at q4; have hdy : R (Float64.add (mx3 r g b) (mn3 r g b)) / 2 * (S : Rat) = (A : Rat) := by push_cast at gS2; grind
  exact ⟨q1, by rw [q4 (hS.dy hdy (by omega))]; exact hdy⟩
end
theorem turn_hls {S : Nat} {A B C : Int} {h h' l s : UInt64} {t k : Nat} {F : Nat -> List PV -> Option PV} {e : Rat} {m : Int} (hF : ∀ m1 m2 u : UInt64, F k [.flt m1, .flt m2, .flt u] = some (.flt (vF m1 m2 (Float64.divmod u Float64.one).2)))
    (hS : Sc S) (hx : Hls S A B C h l s) (hd : min3 A B C < max3 A B C) (hmn : 0 <= min3 A B C) (hmx : max3 A B C <= S)
    (fh : FinF h') (h0 : -1 <= R h') (h1 : R h' <= 2) (e0 : 0 <= e) (e1 : e <= 1 / 2 ^ 42) (k0 : 6 * R h + (t : Rat) - 6 * m - e <= 6 * R h') (k1 : 6 * R h' <= 6 * R h + (t : Rat) - 6 * m + e) :
    ∃ x y z : UInt64, denF F (Co.f_hls_to_rgb k) [.flt h', .flt l, .flt s] = some (.tup [.flt x, .flt y, .flt z]) /\
      Nr x (((rot (max3 A B C + min3 A B C) A B C t).1 : Rat) / S) (1 / 2 ^ 40) /\ Nr y (((rot (max3 A B C + min3 A B C) A B C t).2.1 : Rat) / S) (1 / 2 ^ 40) /\ Nr z (((rot (max3 A B C + min3 A B C) A B C t).2.2 : Rat) / S) (1 / 2 ^ 40) := by
  have hp1 := hS.pos; have hp : (0 : Rat) < (S : Rat) := by grind
  have i0 : (0 : Rat) <= ((min3 A B C : Int) : Rat) := by have := Rat.intCast_le_intCast.mpr hmn; exact_mod_cast this
  have i1 : ((min3 A B C : Int) : Rat) < ((max3 A B C : Int) : Rat) := Rat.intCast_lt_intCast.mpr hd; have i2 : ((max3 A B C : Int) : Rat) <= (S : Rat) := by have := Rat.intCast_le_intCast.mpr hmx; exact_mod_cast this
  have eM : ((max3 A B C : Int) : Rat) / (S : Rat) * (S : Rat) = ((max3 A B C : Int) : Rat) := by grind
  have eN : ((min3 A B C : Int) : Rat) / (S : Rat) * (S : Rat) = ((min3 A B C : Int) : Rat) := by grind
  have hv := hx.lv; have w := hx.w; obtain ⟨n, hu0, hu1⟩ := hx.hue; generalize ((max3 A B C : Int) : Rat) / (S : Rat) = μ at *; generalize ((min3 A B C : Int) : Rat) / (S : Rat) = ν at *; have n0 : 0 <= ν := canR hp (by rw [eN, Rat.zero_mul]; exact i0); have m1 : μ <= 1 := canR hp (by rw [eM, Rat.one_mul]; exact i2); have nm : ν < μ := Rat.lt_of_mul_lt_mul_right (c := (S : Rat)) (by rw [eM, eN]; exact i1) (Rat.le_of_lt hp); obtain ⟨c, hl, u, m', u0, u1, hh, u2, u3⟩ := rgbl_R (δ := μ - ν) hF fh h0 h1 hx.fl hx.fs (by grind) (by grind) (by grind) hx.s0 hx.s1 w; obtain ⟨x, y, z, rfl, hx', hy', hz'⟩ := hats_rot (S := S) hp1 hd (t := t) (n := R l - (μ - ν) / 2) (δ := μ - ν) (e := 1 / 2 ^ 40 - 4096 / 2 ^ 54) (m := m + m' + n) (by grind) (by push_cast; grind) (by grind) hh u0 u1 (by grind) (by grind) (by push_cast; grind) (by push_cast; grind); have e3 : (4096 / 2 ^ 54 + (1 / 2 ^ 40 - 4096 / 2 ^ 54) : Rat) = 1 / 2 ^ 40 := by grind
  rw [e3] at hx' hy' hz'; exact ⟨x, y, z, hl, hx', hy', hz'⟩
end Mine
end
section
open PySem PySem.W PyProof.Rows
namespace Mine
theorem okF_R {i : Int} (h : i.natAbs <= 2 ^ 53) : okF i = true := by
  obtain ⟨⟨a, m, e, hd⟩, -⟩ := ofInt_R h; unfold okF Float64.isInf; rw [hd]; rfl
theorem back_int {S : Nat} (hS : 1 <= S) (hS2 : S <= 2 ^ 28) {x : UInt64} {V : Int} (h0 : 0 <= V) (h1 : V <= S) (h : Nr x ((V : Rat) / S) (1 / 2 ^ 40)) :
    biF .int [.flt (Float64.add (Float64.mul (Float64.ofInt (S : Int)) x) 0x3fe0000000000000)] = some (.int V) := by
  obtain ⟨f, a, b⟩ := h; obtain ⟨s1, s2⟩ := ofInt_R (i := (S : Int)) (by omega); have hp1 : (1 : Rat) <= (S : Rat) := by exact_mod_cast hS
  have hp : (0 : Rat) < (S : Rat) := by grind
  have hp2 : (S : Rat) <= 2 ^ 28 := by
    have := Rat.natCast_le_natCast.mpr hS2; rw [Rat.natCast_pow] at this
    exact_mod_cast this
  have hv0 : (0 : Rat) <= (V : Rat) := by have := Rat.intCast_le_intCast.mpr h0; exact_mod_cast this
  have hv1 : (V : Rat) <= (S : Rat) := by have := Rat.intCast_le_intCast.mpr h1; exact_mod_cast this
  have e1 : (V : Rat) / S * S = V := by grind
  generalize (V : Rat) / S = q at *; have s3 : R (Float64.ofInt (S : Int)) = (S : Rat) := by rw [s2]; push_cast; rfl
  have hx := Rat.mul_le_mul_of_nonneg_right a (Rat.le_of_lt hp); have hx' := Rat.mul_le_mul_of_nonneg_right b (Rat.le_of_lt hp); have p1 : (S : Rat) * R x <= (V : Rat) + 1 / 2 ^ 12 := by grind
  have p2 : (V : Rat) - 1 / 2 ^ 12 <= (S : Rat) * R x := by grind
  obtain ⟨m1, m2, m3, -⟩ := mul_R s1 f (M := 2 ^ 30) ⟨30, by decide, rfl⟩ (by rw [s3]; push_cast; grind) (by rw [s3]; push_cast; grind); rw [s3] at m2 m3; push_cast at m2 m3; obtain ⟨t1, t2⟩ := lh; obtain ⟨c1, c2, c3, -⟩ := add_R m1 t1 (M := 2 ^ 30) ⟨30, by decide, rfl⟩ (by rw [t2]; push_cast; grind) (by rw [t2]; push_cast; grind); rw [t2] at c2 c3; push_cast at c2 c3; exact int_eq c1 V h0 (by grind) (by grind)
theorem rot3 (Z A B C : Int) : rot Z A B C 3 = (Z - A, Z - B, Z - C) := by
  simp only [rot]; refine Prod.ext ?_ (Prod.ext ?_ ?_) <;> simp only <;> omega
end Mine
end
section
open PySem PySem.W PyProof.Rows
namespace Mine
section
variable {F : Nat -> List PV -> Option PV} {pe : PEnv} {src : PI} {e c : PE} {tg : Nat} {items : List PV}
theorem compF_map {cc ee : PEnv -> Option PV} (f : PV -> PV) : ∀ (items : List PV), (∀ p ∈ items, ee (st pe tg p) = some (f p)) -> compF cc ee false tg pe items = some (items.map f)
  | [], _ => rfl
  | p :: l, h => by
    have h1 := h p (by simp); have h2 := compF_map (cc := cc) f l fun q hq => h q (by simp [hq]); simp only [compF, Bool.false_eq_true, if_false, h1, h2, List.map_cons]
theorem compF_filter {cc ee : PEnv -> Option PV} (f : PV -> PV) (b : PV -> Bool) : ∀ (items : List PV), (∀ p ∈ items, cc (st pe tg p) = some (.bool (b p)) /\ (b p = true -> ee (st pe tg p) = some (f p))) -> compF cc ee true tg pe items = some ((items.filter b).map f)
  | [], _ => rfl
  | p :: l, h => by
    obtain ⟨h0, h1⟩ := h p (by simp); have h2 := compF_filter f b l fun q hq => h q (by simp [hq]); cases hb : b p
    · simp only [compF, if_true, h0, hb, h2, List.filter_cons, Bool.false_eq_true, if_false]
    · simp only [compF, if_true, h0, hb, h1 hb, h2, List.filter_cons, List.map_cons]
theorem comp_map (f : PV -> PV) (hs : denI F src pe = some items) (h : ∀ p ∈ items, denE F e (st pe tg p) = some (f p)) : denE F (.comp e tg src false c) pe = some (.lst (items.map f)) := by
  simp only [denE, hs, compF_map f items h, Option.map_some]
theorem comp_filter (f : PV -> PV) (b : PV -> Bool) (hs : denI F src pe = some items) (h : ∀ p ∈ items, denE F c (st pe tg p) = some (.bool (b p)) /\ (b p = true -> denE F e (st pe tg p) = some (f p))) : denE F (.comp e tg src true c) pe = some (.lst ((items.filter b).map f)) := by
  simp only [denE, hs, compF_filter f b items h, Option.map_some]
theorem di_lst {l : List PV} {a : PE} (h : denE F a pe = some (.lst l)) (hl : l.length <= 100000) : denI F (.val a) pe = some l := by
  simp only [denI, h, itemsF, hl, if_true]
theorem di_tup {l : List PV} {a : PE} (h : denE F a pe = some (.tup l)) (hl : l.length <= 100000) : denI F (.val a) pe = some l := by
  simp only [denI, h, itemsF, hl, if_true]
def rng (n : Nat) : List PV := (List.range n).map fun k : Nat => PV.int (k : Int)
theorem di_rng {n : Nat} {a : PE} (h : denE F a pe = some (.int (n : Int))) (hn : n <= 100000) : denI F (.rng1 a) pe = some (rng n) := by
  simp only [denI, h]; unfold rangeF rng; rw [if_pos (by omega)]; congr 1; simp
end
def intL (l : List Int) : PV := .lst (l.map .int)
namespace L2
variable {n : Nat}
theorem ft (n k : Nat) (fs : FSpec) (args : List PV) (h : funs[k]? = some fs) : FT funs (n + 1) k args = denF (FT funs n) fs args := by
  show (match funs[k]? with | some fs => denF (FT funs n) fs args | none => none) = _; rw [h]
def lampI (place share corner : Int) : Int :=
  share * (if (if 512 - (if 1536 - (3 * place - corner) % 1536 < (3 * place - corner) % 1536 then 1536 - (3 * place - corner) % 1536 else (3 * place - corner) % 1536) < 256 then 512 - (if 1536 - (3 * place - corner) % 1536 < (3 * place - corner) % 1536 then 1536 - (3 * place - corner) % 1536 else (3 * place - corner) % 1536) else 256) > 0 then
    (if 512 - (if 1536 - (3 * place - corner) % 1536 < (3 * place - corner) % 1536 then 1536 - (3 * place - corner) % 1536 else (3 * place - corner) % 1536) < 256 then 512 - (if 1536 - (3 * place - corner) % 1536 < (3 * place - corner) % 1536 then 1536 - (3 * place - corner) % 1536 else (3 * place - corner) % 1536) else 256) else 0)
theorem lamps_den (place share : Int) (hs : smallI share = true) : FT funs (n + 1) 14 [.int place, .int share] = some (intL [lampI place share 0, lampI place share 512, lampI place share 1024]) := by
  rw [ft n 14 f_law_lamps _ rfl]; apply fun_r rfl; show rets (denSs _ f_law_lamps.code [some (.int place), some (.int share), none, none, none]) = _; unfold f_law_lamps; have turn : ∀ (corner : Int) (acc : List PV) (x y : Option PV), acc.length <= 10 -> denSs (FT funs n) (.cons (.asg 4 (.bin .Mod (.bin .Sub (.bin .Mult (.cst (.int 3)) (.var 0)) (.var 3)) (.cst (.int 1536)))) (.cons (.app 2 (.bin .Mult (.var 1) (.bi .max (.cons (.cst (.int 0)) (.cons (.bi .min (.cons (.cst (.int 256)) (.cons (.bin .Sub (.cst (.int 512)) (.bi .min (.cons (.var 4) (.cons (.bin .Sub (.cst (.int 1536)) (.var 4)) .nil)))) .nil))) .nil))))) .nil))
      [some (.int place), some (.int share), some (.lst acc), some (.int corner), y] = some ([some (.int place), some (.int share), some (.lst (acc ++ [.int (lampI place share corner)])), some (.int corner), some (.int ((3 * place - corner) % 1536))], .next) := by
    intro corner acc x y ha; refine seq (asg (by simp only [denE, denEs, denI, lk, st, EVL, b_mul_ii 3 place (by decide), b_mod_ii _ 1536 (by decide)]; try rfl)) ?_; simp only [st]; refine seq_last ((app (l := acc) (p := .int (lampI place share corner)) rfl ?_ (by omega)).trans ?_)
    · simp only [denE, denEs, denI, lk, st, EVL, b_mul_ii share _ hs]; rfl
    · rfl
  refine r_seq (asgO (l := []) (by simp only [denE, denEs, denI, lk, st, EVL]; try rfl)) ?_; simp only [st]; refine r_seq (for_s (di_tup (l := [.int 0, .int 512, .int 1024]) (by simp only [denE, denEs, denI, lk, st, EVL]; try rfl) (by decide)) (for_next rfl (turn 0 [] none none (by decide)) (for_next rfl (turn 512 _ none _ (by simp)) (for_next rfl (turn 1024 _ none _ (by simp)) for_nil)))) ?_; refine r_ret ?_; simp only [denE, denEs, denI, lk, st, EVL]; rfl
theorem term_den (x : Int) : FT funs (n + 1) 0 [.int x] = some (.bool (decide (x < 256))) := by
  rw [ft n 0 f_ISTERMINAL _ rfl]; apply fun_r rfl; show rets (denSs _ f_ISTERMINAL.code [some (.int x)]) = _; unfold f_ISTERMINAL g_NT_OFFSET; exact r_ret (by simp only [denE, denEs, denI, lk, st, EVL]; try rfl)
theorem nont_den (x : Int) : FT funs (n + 1) 1 [.int x] = some (.bool (decide (x >= 256))) := by
  rw [ft n 1 f_ISNONTERMINAL _ rfl]; apply fun_r rfl; show rets (denSs _ f_ISNONTERMINAL.code [some (.int x)]) = _; unfold f_ISNONTERMINAL g_NT_OFFSET; exact r_ret (by simp only [denE, denEs, denI, lk, st, EVL]; try rfl)
theorem eof_den (x : Int) : FT funs (n + 1) 2 [.int x] = some (.bool (x == 0)) := by
  rw [ft n 2 f_ISEOF _ rfl]; apply fun_r rfl; show rets (denSs _ f_ISEOF.code [some (.int x)]) = _; unfold f_ISEOF g_ENDMARKER; exact r_ret (by simp only [denE, denEs, denI, lk, st, EVL]; try rfl)
end L2
end Mine
end
section
open PySem PySem.W PyProof.Rows
namespace Mine
theorem least17 {k d : Int} (hk : 1 <= k) (hd : 0 < d) (h : d <= 2 ^ 17) : 1 / 2 ^ 17 <= (k : Rat) / (d : Rat) := by
  have a0 : (0 : Rat) < (d : Rat) := by have := Rat.intCast_lt_intCast.mpr hd; exact_mod_cast this
  have a1 := Rat.intCast_le_intCast.mpr h; have a2 := Rat.intCast_le_intCast.mpr hk; rw [Rat.intCast_pow] at a1; have a3 : (k : Rat) / (d : Rat) * (d : Rat) = (k : Rat) := by grind
  refine canR a0 ?_; rw [a3]; have : ((1 : Int) : Rat) = 1 := rfl; have : ((2 : Int) : Rat) = 2 := rfl; grind
section
variable {r g b : UInt64} {A B C : Int}
theorem div_exact {x y : UInt64} {q : Rat} (hx : FinF x) (hy : FinF y) (h0 : 0 < R y) (hq : R x = q * R y) (q0 : 0 <= q) (q1 : q <= 8) (hd : Dy q) : FinF (Float64.div x y) /\ R (Float64.div x y) = q := by
  have e : R x / R y = q := by rw [hq]; grind
  have p := Rat.mul_nonneg q0 (Rat.le_of_lt h0); have p' := Rat.mul_le_mul_of_nonneg_right q1 (Rat.le_of_lt h0); obtain ⟨a, -, -, d⟩ := div_R hx hy h0 (M := 8) ⟨3, by decide, rfl⟩ (by push_cast; grind) (by push_cast; grind); rw [e] at d; exact ⟨a, d hd⟩
theorem hue_mark (hr : Gr (2 ^ 17) r A) (hg : Gr (2 ^ 17) g B) (hb : Gr (2 ^ 17) b C) (hA : 0 <= A /\ A <= 2 ^ 17) (hB : 0 <= B /\ B <= 2 ^ 17) (hC : 0 <= C /\ C <= 2 ^ 17) (hd : min3 A B C < max3 A B C) (hgb : B = C -> g = b) :
    FinF (hueF r g b) /\ ((C < B \/ (B = C /\ B <= A)) -> 0 <= R (hueF r g b) /\ R (hueF r g b) <= 1 / 2 - 1 / 2 ^ 21) /\ (¬ (C < B \/ (B = C /\ B <= A)) -> R (hueF r g b) = 1 / 2 \/ (1 / 2 + 1 / 2 ^ 21 <= R (hueF r g b) /\ R (hueF r g b) <= 2)) := by
  have hS : Sc (2 ^ 17) := ⟨17, by decide, rfl⟩; have gM := gr_mx hS hr hg hb; have gN := gr_mn hS hr hg hb; obtain ⟨m1, m2, m3, m4⟩ := max3_spec A B C; obtain ⟨n1, n2, n3, n4⟩ := min3_spec A B C; obtain ⟨f1, f2, f3, n, f4, f5⟩ := hueF_R hS hr hg hb ⟨hA.1, by omega⟩ ⟨hB.1, by omega⟩ ⟨hC.1, by omega⟩ hd; refine ⟨f1, ?_⟩; obtain ⟨s1, s2⟩ := l6
  by_cases hBC : B = C
  · have hgb' := hgb hBC; subst hBC; clear hgb; subst hgb'
    by_cases hBA : B <= A
    · -- the hue is nought
      have hMA : max3 A B B = A := by omega
      have hz : R (hueF r g g) = 0 := by
        unfold hueF; have e6 : hue6 r g g (mx3 r g g) (Float64.sub (mx3 r g g) (mn3 r g g)) = Float64.sub (Float64.div (Float64.sub (mx3 r g g) g) (Float64.sub (mx3 r g g) (mn3 r g g))) (Float64.div (Float64.sub (mx3 r g g) g) (Float64.sub (mx3 r g g) (mn3 r g g))) := by
          unfold hue6; rw [gr_eqB hS hr gM, if_pos (by simp; omega)]
        rw [e6]; have gD := gr_sub hS gM gN (by omega); have gg := gr_sub hS gM hg (by omega); obtain ⟨d1, d2, d3, -⟩ := gr_div hS gg gD (by omega) (by omega) (by omega); generalize Float64.div (Float64.sub (mx3 r g g) g) (Float64.sub (mx3 r g g) (mn3 r g g)) = z at *; obtain ⟨a1, -, -, a4⟩ := sub_R d1 d1 (M := 1) ⟨0, by decide, rfl⟩ (by push_cast; grind) (by push_cast; grind); have a5 := a4 ⟨0, 0, by decide, by decide, by push_cast; grind⟩; have a6 : R (Float64.sub z z) = 0 := by rw [a5]; grind
        obtain ⟨b1, b2⟩ := div_exact (q := 0) a1 s1 (by rw [s2]; grind) (by rw [a6]; grind) (by grind) (by grind) ⟨0, 0, by decide, by decide, by push_cast; grind⟩; obtain ⟨c1, c2, k, c3, c4, c5, c6, c7⟩ := mod_one b1; rw [c7 (by rw [b2]; exact Rat.le_refl), b2]; rw [b2] at c5 c6; have k0 : k < 1 := int_lt (by push_cast; grind); have k1 : -1 < k := int_lt (by push_cast; grind); have : k = 0 := by omega
        subst this; push_cast; grind
      refine ⟨fun _ => by rw [hz]; grind, fun h => ?_⟩; exact absurd (.inr ⟨rfl, hBA⟩) h
    · have hMB : max3 A B B = B := by omega
      have hNA : min3 A B B = A := by omega
      have hz : R (hueF r g g) = 1 / 2 := by
        unfold hueF; have e6 : hue6 r g g (mx3 r g g) (Float64.sub (mx3 r g g) (mn3 r g g)) = Float64.sub (Float64.add 0x4000000000000000 (Float64.div (Float64.sub (mx3 r g g) r) (Float64.sub (mx3 r g g) (mn3 r g g)))) (Float64.div (Float64.sub (mx3 r g g) g) (Float64.sub (mx3 r g g) (mn3 r g g))) := by
          unfold hue6; rw [gr_eqB hS hr gM, gr_eqB hS hg gM, if_neg (by simp; omega), if_pos (by simp; omega)]
        rw [e6]; have gD := gr_sub hS gM gN (by omega); have gg := gr_sub hS gM hg (by omega); have gr' := gr_sub hS gM hr (by omega); obtain ⟨d1, -, -, d4, -⟩ := gr_div hS gg gD (by omega) (by omega) (by omega); obtain ⟨e1, -, -, -, e5⟩ := gr_div hS gr' gD (by omega) (by omega) (by omega); have d5 := d4 (by omega); have ey := e5 (by omega); generalize Float64.div (Float64.sub (mx3 r g g) g) (Float64.sub (mx3 r g g) (mn3 r g g)) = z at *; generalize Float64.div (Float64.sub (mx3 r g g) r) (Float64.sub (mx3 r g g) (mn3 r g g)) = y at *; obtain ⟨t1, t2⟩ := l2; obtain ⟨a1, -, -, a4⟩ := add_R t1 e1 (M := 4) ⟨2, by decide, rfl⟩ (by rw [t2, ey]; push_cast; grind) (by rw [t2, ey]; push_cast; grind); have a5 : R (Float64.add 0x4000000000000000 y) = 3 := by
          rw [a4 ⟨3, 0, by decide, by decide, by rw [t2, ey]; push_cast; grind⟩, t2, ey]; grind
        obtain ⟨b1, -, -, b4⟩ := sub_R a1 d1 (M := 4) ⟨2, by decide, rfl⟩ (by rw [a5, d5]; push_cast; grind) (by rw [a5, d5]; push_cast; grind); have b5 : R (Float64.sub (Float64.add 0x4000000000000000 y) z) = 3 := by
          rw [b4 ⟨3, 0, by decide, by decide, by rw [a5, d5]; push_cast; grind⟩, a5, d5]; grind
        obtain ⟨c1, c2⟩ := div_exact (q := 1 / 2) b1 s1 (by rw [s2]; grind) (by rw [b5, s2]; grind) (by grind) (by grind) ⟨1, 1, by decide, by decide, by push_cast; grind⟩; obtain ⟨g1, g2, k, g3, g4, g5, g6, g7⟩ := mod_one c1; rw [g7 (by rw [c2]; grind), c2]; rw [c2] at g5 g6; have k0 : k < 1 := int_lt (by push_cast; grind); have k1 : -1 < k := int_lt (by push_cast; grind); have : k = 0 := by omega
        subst this; push_cast; grind
      refine ⟨fun h => ?_, fun _ => .inl hz⟩; rcases h with h | ⟨-, h⟩
      · omega
      · exact absurd h hBA
  · -- the hue lies off both
    have hd17 : max3 A B C - min3 A B C <= 2 ^ 17 := by omega
    have hn : ∀ lo hi : Rat, lo <= hueQ A B C -> hueQ A B C <= hi -> (-1 <= lo -> hi <= 0 - 1 / 2 ^ 17 -> n = -1) /\ (1 / 2 ^ 17 <= lo -> hi <= 5 -> n = 0) := by
      intro lo hi l0 l1; refine ⟨fun a b => ?_, fun a b => ?_⟩
      · have k0 : n < 0 := int_lt (by push_cast; grind); have k1 : -2 < n := int_lt (by push_cast; grind); omega
      · have k0 : n < 1 := int_lt (by push_cast; grind); have k1 : -1 < n := int_lt (by push_cast; grind); omega
    by_cases hCB : C < B
    · refine ⟨fun _ => ⟨f2, ?_⟩, fun h => absurd (.inl hCB) h⟩
      by_cases hAM : A = max3 A B C
      · have e : hueQ A B C = ((B - C : Int) : Rat) / ((max3 A B C - min3 A B C : Int) : Rat) := by unfold hueQ; rw [if_pos hAM]
        have q1 := least17 (k := B - C) (d := max3 A B C - min3 A B C) (by omega) (by omega) hd17; have q2 := (frac_unit (n := B - C) (m := max3 A B C - min3 A B C) (by omega) (by omega) (by omega)).2; rw [<- e] at q1 q2; have := (hn _ _ q1 q2).2 Rat.le_refl (by grind); subst this; push_cast at f4 f5; grind
      · have hBM : B = max3 A B C := by omega
        have e : hueQ A B C = 2 + ((C - A : Int) : Rat) / ((max3 A B C - min3 A B C : Int) : Rat) := by unfold hueQ; rw [if_neg hAM, if_pos hBM]
        have q1 := least17 (k := (max3 A B C - min3 A B C) - (C - A)) (d := max3 A B C - min3 A B C) (by omega) (by omega) hd17; have q2 := (frac_unit (n := A - C + (max3 A B C - min3 A B C) - (A - min3 A B C)) (m := max3 A B C - min3 A B C) (by omega) (by omega) (by omega)).1; have e2 : (((max3 A B C - min3 A B C) - (C - A) : Int) : Rat) / ((max3 A B C - min3 A B C : Int) : Rat) = 1 - ((C - A : Int) : Rat) / ((max3 A B C - min3 A B C : Int) : Rat) := by
          have : (0 : Rat) < ((max3 A B C - min3 A B C : Int) : Rat) := by
            have := Rat.intCast_lt_intCast.mpr (show 0 < max3 A B C - min3 A B C by omega)
            exact_mod_cast this
          rw [Rat.intCast_sub (max3 A B C - min3 A B C)]; grind
        rw [e2] at q1; obtain ⟨-, -, h4, h5⟩ := (hue_R hS hr hg hb ⟨hA.1, by omega⟩ ⟨hB.1, by omega⟩ ⟨hC.1, by omega⟩ hd).2; have q3 := (frac_unit (n := (C - A) + (max3 A B C - min3 A B C)) (m := 2 * (max3 A B C - min3 A B C)) (by omega) (by omega) (by omega)).1; have lo : 1 <= hueQ A B C := by
          rw [e]; have q4 := (frac_unit (n := (C - A) + (max3 A B C - min3 A B C)) (m := (max3 A B C - min3 A B C) + (max3 A B C - min3 A B C)) (by omega) (by omega) (by omega)).1; have hdp : (0 : Rat) < ((max3 A B C - min3 A B C : Int) : Rat) := by
            have := Rat.intCast_lt_intCast.mpr (show 0 < max3 A B C - min3 A B C by omega)
            exact_mod_cast this
          have hca := Rat.intCast_le_intCast.mpr (show -(max3 A B C - min3 A B C) <= C - A by omega); rw [Rat.intCast_neg] at hca; have hh : ((C - A : Int) : Rat) / ((max3 A B C - min3 A B C : Int) : Rat) * ((max3 A B C - min3 A B C : Int) : Rat) = ((C - A : Int) : Rat) := by grind
          have : -1 <= ((C - A : Int) : Rat) / ((max3 A B C - min3 A B C : Int) : Rat) := canR hdp (by rw [hh]; grind); grind
        have := (hn _ _ lo (show hueQ A B C <= 3 by rw [e]; grind)).2 (by grind) (by grind); subst this; push_cast at f4 f5; grind
    · refine ⟨fun h => ?_, fun _ => .inr ⟨?_, by grind⟩⟩
      · rcases h with h | ⟨h, -⟩
        · exact absurd h hCB
        · exact absurd h hBC
      · have hdp : (0 : Rat) < ((max3 A B C - min3 A B C : Int) : Rat) := by
          have := Rat.intCast_lt_intCast.mpr (show 0 < max3 A B C - min3 A B C by omega)
          exact_mod_cast this
        by_cases hAM : A = max3 A B C
        · have e : hueQ A B C = ((B - C : Int) : Rat) / ((max3 A B C - min3 A B C : Int) : Rat) := by unfold hueQ; rw [if_pos hAM]
          have q1 := least17 (k := C - B) (d := max3 A B C - min3 A B C) (by omega) (by omega) hd17; have q2 := (frac_unit (n := C - B) (m := max3 A B C - min3 A B C) (by omega) (by omega) (by omega)).2; have e2 : ((B - C : Int) : Rat) / ((max3 A B C - min3 A B C : Int) : Rat) = - (((C - B : Int) : Rat) / ((max3 A B C - min3 A B C : Int) : Rat)) := by push_cast; grind
          rw [e2] at e; have := (hn (-1) (0 - 1 / 2 ^ 17) (by rw [e]; grind) (by rw [e]; grind)).1 (by grind) (by grind); subst this; push_cast at f4 f5; grind
        · have hBM : B ≠ max3 A B C := by omega
          have e : hueQ A B C = 4 + ((A - B : Int) : Rat) / ((max3 A B C - min3 A B C : Int) : Rat) := by unfold hueQ; rw [if_neg hAM, if_neg hBM]
          have q1 := least17 (k := (A - B) + (max3 A B C - min3 A B C)) (d := max3 A B C - min3 A B C) (by omega) (by omega) hd17; have e2 : ((A - B + (max3 A B C - min3 A B C) : Int) : Rat) / ((max3 A B C - min3 A B C : Int) : Rat) = 1 + ((A - B : Int) : Rat) / ((max3 A B C - min3 A B C : Int) : Rat) := by
            rw [Rat.intCast_add (A - B)]; grind
          rw [e2] at q1; obtain ⟨-, -, h4, h5⟩ := (hue_R hS hr hg hb ⟨hA.1, by omega⟩ ⟨hB.1, by omega⟩ ⟨hC.1, by omega⟩ hd).2; have := (hn (3 + 1 / 2 ^ 17) 5 (by rw [e]; grind) h5).2 (by grind) (by grind); subst this; push_cast at f4 f5; grind
end
end Mine
end
section
open PySem PySem.W PyProof.Rows
namespace Mine
theorem fq17 {x : Int} (h : x.natAbs <= 2 ^ 53) : Gr (2 ^ 17) (fq x 131072) x := fq_gr (S := 2 ^ 17) ⟨17, by decide, rfl⟩ h
theorem pow17 : binF .Pow (.int 2) (.int 17) = some (.int 131072) := by rw [b_pow_ii _ _ (by decide)]; rfl
def mkS (b : Bool) : PV := .str (sx [if b then 62 else 60])
theorem c_eq_bb (a b : Bool) : cmpF .Eq (.bool a) (.bool b) = some (a == b) := rfl
namespace L2
variable {n : Nat}
theorem hsvc (n : Nat) (args : List PV) : FT funs (n + 1) 6 args = denF (FT funs n) Co.f_rgb_to_hsv args := ft n 6 f_rgb_to_hsv args rfl
theorem rgbvc (n : Nat) (args : List PV) : FT funs (n + 1) 7 args = denF (FT funs n) Co.f_hsv_to_rgb args := ft n 7 f_hsv_to_rgb args rfl
theorem hlsc (n : Nat) (args : List PV) : FT funs (n + 1) 3 args = denF (FT funs n) Co.f_rgb_to_hls args := ft n 3 f_rgb_to_hls args rfl
theorem rgblc (n : Nat) (args : List PV) : FT funs (n + 1) 4 args = denF (FT funs n) (Co.f_hls_to_rgb 5) args := ft n 4 f_hls_to_rgb args rfl
theorem vc (n : Nat) (m1 m2 u : UInt64) : FT funs (n + 1) 5 [.flt m1, .flt m2, .flt u] = some (.flt (vF m1 m2 (Float64.divmod u Float64.one).2)) := by
  rw [ft n 5 f_v _ rfl]; exact v_den
def isPlain (a b c : Int) : Bool := decide (c < b \/ (b = c /\ b <= a))
theorem place_den {h : UInt64} (fh : FinF h) (b : Bool) (hb : b = true -> 0 <= R h /\ R h <= 1 / 2 - 1 / 2 ^ 21) (hb' : b = false -> R h = 1 / 2 \/ (1 / 2 + 1 / 2 ^ 21 <= R h /\ R h <= 2)) :
    ∃ p : Int, biF .int [.flt (Float64.mul (Float64.ofInt 512) h)] = some (.int p) /\ (decide (p < 256)) = b := by
  obtain ⟨s1, s2⟩ := ofInt_R (i := 512) (by decide); have s3 : R (Float64.ofInt 512) = 512 := by rw [s2]; rfl
  have h0 : 0 <= R h := by
    cases b
    · rcases hb' rfl with h | ⟨h, -⟩
      · rw [h]; grind
      · clear hb hb'; grind
    · exact (hb rfl).1
  have h2 : R h <= 2 := by
    cases b
    · rcases hb' rfl with h | ⟨-, h⟩
      · rw [h]; grind
      · exact h
    · have := (hb rfl).2; grind
  obtain ⟨m1, m2, m3, m4⟩ := mul_R s1 fh (M := 1024) ⟨10, by decide, rfl⟩ (by rw [s3]; push_cast; grind) (by rw [s3]; push_cast; grind); rw [s3] at m2 m3 m4; push_cast at m2 m3; have hm := mul_nonneg' s1 fh (by rw [s3]; grind) h0 m1; obtain ⟨p, p0, p1, p2, p3⟩ := int_R m1 hm; refine ⟨p, p1, ?_⟩; cases b
  · have : ¬ p < 256 := by
      intro hlt; have : (p : Rat) + 1 <= ((256 : Int) : Rat) := by
        have := Rat.intCast_le_intCast.mpr (show p + 1 <= 256 by omega); push_cast at this ⊢; exact this
      have e : ((256 : Int) : Rat) = 256 := rfl; rcases hb' rfl with h | ⟨h, -⟩
      · have := m4 ⟨256, 0, by decide, by decide, by rw [h]; push_cast; grind⟩; rw [h] at this; clear hb hb' m4 m2 m3; grind
      · grind
    simp [this]
  · have : p < 256 := by
      have e : ((256 : Int) : Rat) = 256 := rfl; refine int_lt ?_; have := (hb rfl).2; grind
    simp [this]
theorem mark_den {a b c w : Int} (ha : 0 <= w + a /\ w + a <= 2 ^ 17) (hb : 0 <= w + b /\ w + b <= 2 ^ 17) (hc : 0 <= w + c /\ w + c <= 2 ^ 17) :
    FT funs (n + 2) 15 [intL [a, b, c], .int w] = some (mkS (!isPlain a b c)) := by
  rw [ft (n + 1) 15 f_law_mark _ rfl]; apply fun_r rfl; show rets (denSs _ f_law_mark.code [some (intL [a, b, c]), some (.int w), none, none, none, none, none, none, none, none]) = _; unfold f_law_mark; have ga := fq17 (x := w + a) (by omega); have gb := fq17 (x := w + b) (by omega); have gc := fq17 (x := w + c) (by omega); have hS : Sc (2 ^ 17) := ⟨17, by decide, rfl⟩; refine r_seq (asgT (p := .lst [.flt (fq (w + a) 131072), .flt (fq (w + b) 131072), .flt (fq (w + c) 131072)]) ?_ rfl) ?_
  · refine comp_map (items := [.int a, .int b, .int c]) (fun p => match p with | .int i => .flt (fq (w + i) 131072) | _ => .none) (di_lst (by simp only [denE, denEs, denI, lk, st, EVL]; try rfl) (by simp)) ?_; intro p hp; simp only [List.mem_cons, List.not_mem_nil, or_false] at hp; rcases hp with rfl | rfl | rfl
    · simp only [denE, denEs, denI, lk, st, EVL, pow17, b_div_ii (w + a) 131072 (by decide) ga.1]
    · simp only [denE, denEs, denI, lk, st, EVL, pow17, b_div_ii (w + b) 131072 (by decide) gb.1]
    · simp only [denE, denEs, denI, lk, st, EVL, pow17, b_div_ii (w + c) 131072 (by decide) gc.1]
  have key : ∃ (h s v : UInt64), FT funs (n + 1) 6 [.flt (fq (w + a) 131072), .flt (fq (w + b) 131072), .flt (fq (w + c) 131072)] = some (.tup [.flt h, .flt s, .flt v]) /\ FinF h /\
      (isPlain a b c = true -> 0 <= R h /\ R h <= 1 / 2 - 1 / 2 ^ 21) /\ (isPlain a b c = false -> R h = 1 / 2 \/ (1 / 2 + 1 / 2 ^ 21 <= R h /\ R h <= 2)) := by
    rw [hsvc]
    by_cases hg : a = b /\ b = c
    · obtain ⟨rfl, rfl⟩ := hg; obtain ⟨v, hv, -⟩ := hsv_grey (F := FT funs n) hS ga ga ga; refine ⟨0, 0, v, hv, l0.1, fun _ => ?_, fun h => ?_⟩
      · rw [l0.2]; grind
      · simp [isPlain] at h
    · have hd : min3 (w + a) (w + b) (w + c) < max3 (w + a) (w + b) (w + c) := by unfold min3 max3; omega
      obtain ⟨s, v, hv, -⟩ := hsv_R (F := FT funs n) hS (by decide) ga gb gc ⟨ha.1, by omega⟩ ⟨hb.1, by omega⟩ ⟨hc.1, by omega⟩ hd; obtain ⟨f, h1, h2⟩ := hue_mark ga gb gc ha hb hc hd (fun e => by rw [e]); refine ⟨_, s, v, hv, f, fun h => h1 ?_, fun h => h2 ?_⟩
      · simp [isPlain] at h; omega
      · simp [isPlain] at h; omega
  obtain ⟨h, s, v, e1, f, e2, e3⟩ := key; refine r_seq (asgT (p := .tup [.flt h, .flt s, .flt v]) ?_ rfl) ?_
  · simp only [denE, denEs, denI, lk, st, EVL, e1]
  obtain ⟨p, p1, p2⟩ := place_den f (isPlain a b c) e2 e3; simp only [st]; refine r_seq (asg (p := .int p) ?_) ?_
  · simp only [denE, denEs, denI, lk, st, EVL, b_mul_if 512 h (okF_R (by decide)), p1]
  simp only [st]; refine r_skip ?_ ?_
  · simp only [denE, denEs, denI, lk, st, EVL, term_den, nont_den, c_eq_bb]; have : (decide (p < 256) == decide (p >= 256)) = false := by
      by_cases h : p < 256
      · have : ¬ p >= 256 := by omega
        simp [h]
      · have : p >= 256 := by omega
        simp [h, this]
    rw [this]
  · refine r_ret ?_; simp only [denE, denEs, denI, lk, st, EVL, term_den, p2]; cases isPlain a b c <;> rfl
end L2
end Mine
end
section
open PySem PySem.W PyProof.Rows
namespace Mine
theorem comp_three {F : Nat -> List PV -> Option PV} {pe : PEnv} {src : PI} {e c : PE} {tg : Nat} {p q r p' q' r' : PV} (hs : denI F src pe = some [p, q, r]) (h1 : denE F e (st pe tg p) = some p') (h2 : denE F e (st pe tg q) = some q') (h3 : denE F e (st pe tg r) = some r') :
    denE F (.comp e tg src false c) pe = some (.lst [p', q', r']) := by
  simp only [denE, hs, compF, Bool.false_eq_true, if_false, h1, h2, h3, Option.map_some]
theorem intsOf_map : ∀ (l : List Int), intsOf (l.map .int) = some l
  | [] => rfl
  | a :: l => by
    show (match isInt (PV.int a), intsOf (l.map .int) with | some x, some y => some (x :: y) | _, _ => none) = _; rw [intsOf_map l]; rfl
theorem bi_minL (l : List Int) (h : l.isEmpty = false) : biF .min [intL l] = some (.int (minL l)) := by
  show (match intsOf (l.map .int) with | some ns => if ns.isEmpty then none else some (PV.int (minL ns)) | none => none) = _; rw [intsOf_map]; simp only [h, Bool.false_eq_true, if_false]
theorem bi_maxL (l : List Int) (h : l.isEmpty = false) : biF .max [intL l] = some (.int (maxL l)) := by
  show (match intsOf (l.map .int) with | some ns => if ns.isEmpty then none else some (PV.int (maxL ns)) | none => none) = _; rw [intsOf_map]; simp only [h, Bool.false_eq_true, if_false]
theorem minL3 (a b c : Int) : minL [a, b, c] <= a /\ minL [a, b, c] <= b /\ minL [a, b, c] <= c /\ (minL [a, b, c] = a \/ minL [a, b, c] = b \/ minL [a, b, c] = c) := by
  unfold minL; simp only [minL]; omega
theorem maxL3 (a b c : Int) : a <= maxL [a, b, c] /\ b <= maxL [a, b, c] /\ c <= maxL [a, b, c] /\ (maxL [a, b, c] = a \/ maxL [a, b, c] = b \/ maxL [a, b, c] = c) := by
  unfold maxL; simp only [maxL]; omega
theorem getF_l {l : List PV} {k : Int} {v : PV} (h0 : 0 <= k) (h1 : k < 1000000) (h : l[k.toNat]? = some v) : getF (.lst l) (.int k) = some v := by
  show (ixF k l.length).bind (l[·]?) = _; unfold ixF; rw [if_pos (by omega)]; have hl := (List.getElem?_eq_some_iff.mp h).1; rw [seqIndex_of h0 (by omega)]; exact h
theorem getF_t {l : List PV} {k : Int} {v : PV} (h0 : 0 <= k) (h1 : k < 1000000) (h : l[k.toNat]? = some v) : getF (.tup l) (.int k) = some v := by
  show (ixF k l.length).bind (l[·]?) = _; unfold ixF; rw [if_pos (by omega)]; have hl := (List.getElem?_eq_some_iff.mp h).1; rw [seqIndex_of h0 (by omega)]; exact h
namespace L2
variable {n : Nat}
def meltI (x y z : Int) : List Int := [maxL [x, y, z] - x, maxL [x, y, z] - y, maxL [x, y, z] - z]
theorem half_add {h : UInt64} (fh : FinF h) (h0 : 0 <= R h) (h1 : R h <= 1 + 1 / 2 ^ 52) : FinF (Float64.add h 0x3fe0000000000000) /\ 0 <= R (Float64.add h 0x3fe0000000000000) /\ R (Float64.add h 0x3fe0000000000000) <= 100 /\
    6 * R h + 3 - 1 / 2 ^ 48 <= 6 * R (Float64.add h 0x3fe0000000000000) /\ 6 * R (Float64.add h 0x3fe0000000000000) <= 6 * R h + 3 + 1 / 2 ^ 48 := by
  obtain ⟨t1, t2⟩ := lh; obtain ⟨a1, a2, a3, -⟩ := add_R fh t1 (M := 2) ⟨1, by decide, rfl⟩ (by rw [t2]; push_cast; grind) (by rw [t2]; push_cast; grind); rw [t2] at a2 a3; push_cast at a2 a3; exact ⟨a1, by grind, by grind, by grind, by grind⟩
theorem half_sub {h : UInt64} (fh : FinF h) (h0 : 0 <= R h) (h1 : R h <= 1 + 1 / 2 ^ 52) : FinF (Float64.sub h 0x3fe0000000000000) /\ -1 <= R (Float64.sub h 0x3fe0000000000000) /\ R (Float64.sub h 0x3fe0000000000000) <= 2 /\
    6 * R h + 3 - 6 - 1 / 2 ^ 48 <= 6 * R (Float64.sub h 0x3fe0000000000000) /\ 6 * R (Float64.sub h 0x3fe0000000000000) <= 6 * R h + 3 - 6 + 1 / 2 ^ 48 := by
  obtain ⟨t1, t2⟩ := lh; obtain ⟨a1, a2, a3, -⟩ := sub_R fh t1 (M := 2) ⟨1, by decide, rfl⟩ (by rw [t2]; push_cast; grind) (by rw [t2]; push_cast; grind); rw [t2] at a2 a3; push_cast at a2 a3; exact ⟨a1, by grind, by grind, by grind, by grind⟩
theorem gr_nr {S : Nat} {x : UInt64} {v : Int} (hS : Sc S) (h : Gr S x v) {e : Rat} (he : 0 <= e) : Nr x ((v : Rat) / S) e := by
  have hp : (0 : Rat) < (S : Rat) := by have := hS.pos; grind
  have : (v : Rat) / S = R x := by
    refine canE hp ?_; rw [h.2]; grind
  rw [this]; exact Nr.self h.1 he
theorem shown_hsv {w x y z : Int} (hw : 0 <= w) (hx : 0 <= x /\ w + x <= 2 ^ 17) (hy : 0 <= y /\ w + y <= 2 ^ 17) (hz : 0 <= z /\ w + z <= 2 ^ 17) (h0 : x = 0 \/ y = 0 \/ z = 0) :
    ∃ h s v p q r : UInt64, FT funs (n + 1) 6 [.flt (fq (w + x) 131072), .flt (fq (w + y) 131072), .flt (fq (w + z) 131072)] = some (.tup [.flt h, .flt s, .flt v]) /\
      FT funs (n + 1) 7 [.flt (Float64.add h 0x3fe0000000000000), .flt s, .flt v] = some (.tup [.flt p, .flt q, .flt r]) /\
      Nr p (((w + (maxL [x, y, z] - x) : Int) : Rat) / (2 ^ 17 : Nat)) (1 / 2 ^ 40) /\ Nr q (((w + (maxL [x, y, z] - y) : Int) : Rat) / (2 ^ 17 : Nat)) (1 / 2 ^ 40) /\ Nr r (((w + (maxL [x, y, z] - z) : Int) : Rat) / (2 ^ 17 : Nat)) (1 / 2 ^ 40) := by
  have hS : Sc (2 ^ 17) := ⟨17, by decide, rfl⟩; have ga := fq17 (x := w + x) (by omega); have gb := fq17 (x := w + y) (by omega); have gc := fq17 (x := w + z) (by omega); obtain ⟨k1, k2, k3, k4⟩ := maxL3 x y z; rw [hsvc]; simp only [rgbvc]
  by_cases hg : x = y /\ y = z
  · obtain ⟨rfl, rfl⟩ := hg; obtain ⟨v, hv, gv⟩ := hsv_grey (F := FT funs n) hS ga ga ga; have e : w + (maxL [x, x, x] - x) = w + x := by omega
    rw [e]; have nv := gr_nr hS gv (e := 1 / 2 ^ 40) (by grind); exact ⟨0, 0, v, v, v, v, hv, rgbv_grey, nv, nv, nv⟩
  · have hd : min3 (w + x) (w + y) (w + z) < max3 (w + x) (w + y) (w + z) := by unfold min3 max3; omega
    have hmn : min3 (w + x) (w + y) (w + z) = w := by unfold min3; omega
    have hmx : max3 (w + x) (w + y) (w + z) = w + maxL [x, y, z] := by obtain ⟨q1, q2, q3, q4⟩ := max3_spec (w + x) (w + y) (w + z); omega
    obtain ⟨s, v, hv, H⟩ := hsv_R (F := FT funs n) hS (by decide) ga gb gc ⟨by omega, by omega⟩ ⟨by omega, by omega⟩ ⟨by omega, by omega⟩ hd; generalize hueF (fq (w + x) 131072) (fq (w + y) 131072) (fq (w + z) 131072) = h at *; obtain ⟨f1, f2, f3, f4, f5⟩ := half_add H.fh H.h0 H.h1; obtain ⟨p, q, r, hp, np, nq, nr⟩ := turn_hsv (t := 3) (F := FT funs n) (m := 0) (e := 1 / 2 ^ 48) hS H hd (by omega) (by omega) f1 f2 f3 (by grind) (by grind) (by push_cast; grind) (by push_cast; grind); rw [rot3, hmn, hmx] at np nq nr; simp only at np nq nr; have loose : ∀ {x : UInt64} {q : Rat}, Nr x q (1 / 2 ^ 41) -> Nr x q (1 / 2 ^ 40) := fun ⟨a, b, c⟩ => ⟨a, by grind, by grind⟩; refine ⟨h, s, v, p, q, r, hv, hp, ?_, ?_, ?_⟩
    · rw [show w + (maxL [x, y, z] - x) = w + maxL [x, y, z] + w - (w + x) by omega]; exact loose np
    · rw [show w + (maxL [x, y, z] - y) = w + maxL [x, y, z] + w - (w + y) by omega]; exact loose nq
    · rw [show w + (maxL [x, y, z] - z) = w + maxL [x, y, z] + w - (w + z) by omega]; exact loose nr
theorem shown_hls {w x y z : Int} (hw : 0 <= w) (hx : 0 <= x /\ w + x <= 2 ^ 17) (hy : 0 <= y /\ w + y <= 2 ^ 17) (hz : 0 <= z /\ w + z <= 2 ^ 17) (h0 : x = 0 \/ y = 0 \/ z = 0) :
    ∃ h s v p q r : UInt64, FT funs (n + 2) 3 [.flt (fq (w + x) 131072), .flt (fq (w + y) 131072), .flt (fq (w + z) 131072)] = some (.tup [.flt h, .flt v, .flt s]) /\
      FT funs (n + 2) 4 [.flt (Float64.sub h 0x3fe0000000000000), .flt v, .flt s] = some (.tup [.flt p, .flt q, .flt r]) /\
      Nr p (((w + (maxL [x, y, z] - x) : Int) : Rat) / (2 ^ 17 : Nat)) (1 / 2 ^ 40) /\ Nr q (((w + (maxL [x, y, z] - y) : Int) : Rat) / (2 ^ 17 : Nat)) (1 / 2 ^ 40) /\ Nr r (((w + (maxL [x, y, z] - z) : Int) : Rat) / (2 ^ 17 : Nat)) (1 / 2 ^ 40) := by
  have hS : Sc (2 ^ 17) := ⟨17, by decide, rfl⟩; have ga := fq17 (x := w + x) (by omega); have gb := fq17 (x := w + y) (by omega); have gc := fq17 (x := w + z) (by omega); obtain ⟨k1, k2, k3, k4⟩ := maxL3 x y z; rw [hlsc]; simp only [rgblc]
  by_cases hg : x = y /\ y = z
  · obtain ⟨rfl, rfl⟩ := hg; obtain ⟨v, hv, gv⟩ := hls_grey (F := FT funs (n + 1)) hS ga ga ga ⟨by omega, by omega⟩; have e : w + (maxL [x, x, x] - x) = w + x := by omega
    rw [e]; have nv := gr_nr hS gv (e := 1 / 2 ^ 40) (by grind); exact ⟨0, 0, v, v, v, v, hv, rgbl_grey, nv, nv, nv⟩
  · have hd : min3 (w + x) (w + y) (w + z) < max3 (w + x) (w + y) (w + z) := by unfold min3 max3; omega
    have hmn : min3 (w + x) (w + y) (w + z) = w := by unfold min3; omega
    have hmx : max3 (w + x) (w + y) (w + z) = w + maxL [x, y, z] := by obtain ⟨q1, q2, q3, q4⟩ := max3_spec (w + x) (w + y) (w + z); omega
    obtain ⟨l, s, hv, H⟩ := hls_full (F := FT funs (n + 1)) hS (by decide) ga gb gc ⟨by omega, by omega⟩ ⟨by omega, by omega⟩ ⟨by omega, by omega⟩ hd; generalize hueF (fq (w + x) 131072) (fq (w + y) 131072) (fq (w + z) 131072) = h at *; obtain ⟨f1, f2, f3, f4, f5⟩ := half_sub H.fh H.h0 H.h1; obtain ⟨p, q, r, hp, np, nq, nr⟩ := turn_hls (t := 3) (k := 5) (F := FT funs (n + 1)) (m := 1) (e := 1 / 2 ^ 48) (vc n) hS H hd (by omega) (by omega) f1 f2 f3 (by grind) (by grind) (by push_cast; grind) (by push_cast; grind); rw [rot3, hmn, hmx] at np nq nr; simp only at np nq nr; refine ⟨h, s, l, p, q, r, hv, hp, ?_, ?_, ?_⟩
    · rw [show w + (maxL [x, y, z] - x) = w + maxL [x, y, z] + w - (w + x) by omega]; exact np
    · rw [show w + (maxL [x, y, z] - y) = w + maxL [x, y, z] + w - (w + y) by omega]; exact nq
    · rw [show w + (maxL [x, y, z] - z) = w + maxL [x, y, z] + w - (w + z) by omega]; exact nr
theorem melted_den {a b c a' b' c' w way : Int} (hw : 0 <= w) (hway : way = 0 \/ way = 1) (hM : w + (maxL [a + a', b + b', c + c'] - minL [a + a', b + b', c + c']) <= 2 ^ 17) :
    FT funs (n + 3) 16 [intL [a, b, c], intL [a', b', c'], .int w, .int way] =
      some (intL (meltI (a + a' - minL [a + a', b + b', c + c']) (b + b' - minL [a + a', b + b', c + c']) (c + c' - minL [a + a', b + b', c + c']))) := by
  rw [ft (n + 2) 16 f_law_melted _ rfl]; apply fun_r rfl; show rets (denSs _ f_law_melted.code [some (intL [a, b, c]), some (intL [a', b', c']), some (.int w), some (.int way), none, none, none, none, none, none, none, none, none, none, none]) = _; unfold f_law_melted; have hmixed : ∀ pe, lk pe 0 = some (intL [a, b, c]) -> lk pe 1 = some (intL [a', b', c']) -> (∀ v, lk (st pe 14 v) 14 = some v /\ lk (st pe 14 v) 0 = lk pe 0 /\ lk (st pe 14 v) 1 = lk pe 1) ->
      denE (FT funs (n + 2)) (.comp (.bin .Add (.sub (.var 0) (.var 14)) (.sub (.var 1) (.var 14))) 14 (.rng1 (.cst (.int 3))) false (.cst .none)) pe = some (intL [a + a', b + b', c + c']) := by
    intro pe h0 h1 hst; have it : ∀ (k : Int) (u v : Int), ([a, b, c].map PV.int)[k.toNat]? = some (.int u) -> ([a', b', c'].map PV.int)[k.toNat]? = some (.int v) -> 0 <= k -> k < 1000000 -> denE (FT funs (n + 2)) (.bin .Add (.sub (.var 0) (.var 14)) (.sub (.var 1) (.var 14))) (st pe 14 (.int k)) = some (.int (u + v)) := by
      intro k u v hu hv k0 k1; obtain ⟨q1, q2, q3⟩ := hst (.int k); simp only [denE, q1, q2, q3, h0, h1, intL, getF_l k0 k1 hu, getF_l k0 k1 hv, b_add_ii]
    refine comp_three (p := .int 0) (q := .int 1) (r := .int 2) (di_rng (n := 3) rfl (by decide)) (it 0 _ _ rfl rfl (by decide) (by decide)) (it 1 _ _ rfl rfl (by decide) (by decide)) (it 2 _ _ rfl rfl (by decide) (by decide))
  refine r_seq (asg (hmixed _ rfl rfl (fun v => ⟨rfl, rfl, rfl⟩))) ?_; simp only [st]; obtain ⟨n1, n2, n3, n4⟩ := minL3 (a + a') (b + b') (c + c'); obtain ⟨m1, m2, m3, m4⟩ := maxL3 (a + a') (b + b') (c + c'); have hmin := bi_minL [a + a', b + b', c + c'] rfl; generalize minL [a + a', b + b', c + c'] = m at *; generalize maxL [a + a', b + b', c + c'] = M at *; have ga := fq17 (x := w + (a + a' - m)) (by omega); have gb := fq17 (x := w + (b + b' - m)) (by omega); have gc := fq17 (x := w + (c + c' - m)) (by omega); refine r_seq (asgT (p := .lst [.flt (fq (w + (a + a' - m)) 131072), .flt (fq (w + (b + b' - m)) 131072), .flt (fq (w + (c + c' - m)) 131072)]) ?_ rfl) ?_
  · refine comp_three (p := .int (a + a')) (q := .int (b + b')) (r := .int (c + c')) (di_lst (by simp only [denE, denEs, denI, lk, st, EVL]; try rfl) (by simp)) ?_ ?_ ?_
    · simp only [denE, denEs, denI, lk, st, EVL, hmin]; rw [show w + (a + a') - m = w + (a + a' - m) by omega]; simp only [denE, denEs, denI, lk, st, EVL, pow17, b_div_ii (w + (a + a' - m)) 131072 (by decide) ga.1]
    · simp only [denE, denEs, denI, lk, st, EVL, hmin]; rw [show w + (b + b') - m = w + (b + b' - m) by omega]; simp only [denE, denEs, denI, lk, st, EVL, pow17, b_div_ii (w + (b + b' - m)) 131072 (by decide) gb.1]
    · simp only [denE, denEs, denI, lk, st, EVL, hmin]; rw [show w + (c + c') - m = w + (c + c' - m) by omega]; simp only [denE, denEs, denI, lk, st, EVL, pow17, b_div_ii (w + (c + c' - m)) 131072 (by decide) gc.1]
  simp only [st]; generalize hx : a + a' - m = x at *; generalize hy : b + b' - m = y at *; generalize hz : c + c' - m = z at *; obtain ⟨q1, q2, q3, q4⟩ := maxL3 x y z; have fin : ∀ (p q r : UInt64) (p5 p6 p7 p8 p9 p10 : Option PV), Nr p (((w + (maxL [x, y, z] - x) : Int) : Rat) / (2 ^ 17 : Nat)) (1 / 2 ^ 40) -> Nr q (((w + (maxL [x, y, z] - y) : Int) : Rat) / (2 ^ 17 : Nat)) (1 / 2 ^ 40) -> Nr r (((w + (maxL [x, y, z] - z) : Int) : Rat) / (2 ^ 17 : Nat)) (1 / 2 ^ 40) ->
      rets (denSs (FT funs (n + 2)) (.cons (.ret (.comp (.bin .Sub (.bi .int (.cons (.bin .Add (.bin .Mult (.bin .Pow (.cst (.int 2)) (.cst (.int 17))) (.var 12)) (.cst (.flt 0x3fe0000000000000))) .nil)) (.var 2)) 12 (.val (.var 11)) false (.cst .none))) .nil)
        [some (intL [a, b, c]), some (intL [a', b', c']), some (.int w), some (.int way), some (intL [a + a', b + b', c + c']), p5, p6, p7, p8, p9, p10, some (.tup [.flt p, .flt q, .flt r]), none, none, none]) = some (intL (meltI x y z)) := by
    intro p q r p5 p6 p7 p8 p9 p10 np nq nr; refine r_ret ?_; have bp := back_int (S := 2 ^ 17) (by decide) (by decide) (V := w + (maxL [x, y, z] - x)) (by omega) (by omega) np; have bq := back_int (S := 2 ^ 17) (by decide) (by decide) (V := w + (maxL [x, y, z] - y)) (by omega) (by omega) nq; have br := back_int (S := 2 ^ 17) (by decide) (by decide) (V := w + (maxL [x, y, z] - z)) (by omega) (by omega) nr; rw [show (((2 ^ 17 : Nat) : Int)) = 131072 from rfl] at bp bq br; refine (comp_three (p := .flt p) (q := .flt q) (r := .flt r) (di_tup (by simp only [denE, denEs, denI, lk, st, EVL]; try rfl) (by simp)) (p' := .int (maxL [x, y, z] - x)) (q' := .int (maxL [x, y, z] - y)) (r' := .int (maxL [x, y, z] - z)) ?_ ?_ ?_).trans rfl
    · simp only [denE, denEs, denI, lk, st, EVL, pow17, b_mul_if 131072 p (okF_R (by decide)), bp]; congr 2; omega
    · simp only [denE, denEs, denI, lk, st, EVL, pow17, b_mul_if 131072 q (okF_R (by decide)), bq]; congr 2; omega
    · simp only [denE, denEs, denI, lk, st, EVL, pow17, b_mul_if 131072 r (okF_R (by decide)), br]; congr 2; omega
  rcases hway with rfl | rfl
  · obtain ⟨h, s, v, p, q, r, e1, e2, np, nq, nr⟩ := shown_hsv (n := n + 1) (w := w) (x := x) (y := y) (z := z) hw ⟨by omega, by omega⟩ ⟨by omega, by omega⟩ ⟨by omega, by omega⟩ (by omega); refine r_seq (ite_t (by simp only [denE, denEs, denI, lk, st, EVL]; try rfl) (seq (asgT (p := .tup [.flt h, .flt s, .flt v]) ?_ rfl) (seq_last (asg (p := .tup [.flt p, .flt q, .flt r]) ?_)))) ?_
    · simp only [denE, denEs, denI, lk, st, EVL, e1]
    · simp only [denE, denEs, denI, lk, st, EVL, e2]
    · simp only [st]; exact fin p q r _ _ _ _ _ _ np nq nr
  · obtain ⟨h, s, v, p, q, r, e1, e2, np, nq, nr⟩ := shown_hls (n := n) (w := w) (x := x) (y := y) (z := z) hw ⟨by omega, by omega⟩ ⟨by omega, by omega⟩ ⟨by omega, by omega⟩ (by omega); refine r_seq (ite_f (by simp only [denE, denEs, denI, lk, st, EVL]; try rfl) (seq (asgT (p := .tup [.flt h, .flt v, .flt s]) ?_ rfl) (seq_last (asg (p := .tup [.flt p, .flt q, .flt r]) ?_)))) ?_
    · simp only [denE, denEs, denI, lk, st, EVL, e1]
    · simp only [denE, denEs, denI, lk, st, EVL, e2]
    · simp only [st]; exact fin p q r _ _ _ _ _ _ np nq nr
end L2
end Mine
end
section
open PySem PySem.W PyProof.Rows
namespace Mine
theorem eqsF_same {f : PV -> PV -> Option Bool} : ∀ {l : List PV}, (∀ x ∈ l, f x x = some true) -> eqsF f l l = some true
  | [], _ => rfl
  | a :: l, h => by
    have h1 := h a (by simp); have h2 := eqsF_same (f := f) (l := l) fun x hx => h x (by simp [hx]); simp only [eqsF, h1, h2, Bool.and_self]
def plainP : Nat -> PV -> Bool
  | _, .none => true
  | _, .bool _ => true
  | _, .int _ => true
  | _, .str _ => true
  | n + 1, .tup l => l.all (plainP n)
  | n + 1, .lst l => l.all (plainP n)
  | _, _ => false
theorem eqF_same : ∀ {n : Nat} {p : PV}, plainP n p = true -> eqF n p p = some true
  | n, .none, _ => by cases n <;> rfl
  | n, .bool b, _ => by cases n <;> simp [eqF]
  | n, .int b, _ => by cases n <;> simp [eqF]
  | n, .str b, _ => by cases n <;> simp [eqF]
  | 0, .tup l, h => by simp [plainP] at h
  | 0, .lst l, h => by simp [plainP] at h
  | n + 1, .tup l, h => by
    simp only [plainP, List.all_eq_true] at h; simp only [eqF, beq_self_eq_true, if_true]; exact eqsF_same fun x hx => eqF_same (h x hx)
  | n + 1, .lst l, h => by
    simp only [plainP, List.all_eq_true] at h; simp only [eqF, beq_self_eq_true, if_true]; exact eqsF_same fun x hx => eqF_same (h x hx)
  | 0, .flt _, h => by simp [plainP] at h
  | 0, .dcti _, h => by simp [plainP] at h
  | 0, .dcts _, h => by simp [plainP] at h
  | n + 1, .flt _, h => by simp [plainP] at h
  | n + 1, .dcti _, h => by simp [plainP] at h
  | n + 1, .dcts _, h => by simp [plainP] at h
theorem ne_same {p : PV} (h : plainP 3 p = true) (hf : ∀ x, p ≠ .flt x) : cmpF .NotEq p p = some false := by
  have : cmpF .NotEq p p = (eqF 3 p p).map (!·) := by cases p <;> rfl
  rw [this, eqF_same h]; rfl
theorem eq_nil (l : List PV) : cmpF .Eq (.lst l) (.lst []) = some l.isEmpty := by
  show eqF 3 (.lst l) (.lst []) = _; cases l with
  | nil => rfl
  | cons a l => simp [eqF]
theorem ne_nil (l : List PV) : cmpF .NotEq (.lst l) (.lst []) = some (!l.isEmpty) := by
  show (eqF 3 (.lst l) (.lst [])).map (!·) = _; cases l with
  | nil => rfl
  | cons a l => simp [eqF]
theorem eq_mk (a b : Bool) : cmpF .Eq (mkS a) (mkS b) = some (a == b) := by
  unfold mkS; rw [c_eq_ss]; cases a <;> cases b <;> rfl
def chars (bs : List Bool) : List Nat := bs.map fun b => if b then 62 else 60
theorem chars_flat (bs : List Bool) : (bs.map fun b : Bool => [if b then 62 else 60]).flatten = chars bs := by
  induction bs with
  | nil => rfl
  | cons b l ih => simp [chars] at ih ⊢; rw [ih]
theorem join_marks (bs : List Bool) (h : bs.length <= 100000) : meF .join (.str (sx [])) [.lst (bs.map mkS)] = some (.str (sx (chars bs))) := by
  have := join_den [] (bs.map fun b : Bool => [if b then 62 else 60]) (by
    have : ((bs.map fun b : Bool => [if b then 62 else 60]).map List.length).sum = bs.length := by
      clear h
      induction bs with
      | nil => rfl
      | cons b l ih => rw [List.map_cons, List.map_cons, List.sum_cons, ih]; simp; omega
    rw [this]; simpa using h)
  rw [joinL_nil, chars_flat] at this; rw [<- this]; congr 2; simp [strL, List.map_map, mkS, Function.comp_def]
def adj : List Bool -> Bool
  | a :: b :: l => a == b || adj (b :: l)
  | _ => false
def allB : Nat -> List (List Bool)
  | 0 => [[]]
  | n + 1 => (allB n).flatMap fun l => [false :: l, true :: l]
theorem mem_allB : ∀ (l : List Bool), l ∈ allB l.length
  | [] => by simp [allB]
  | b :: l => by
    simp only [List.length_cons, allB, List.mem_flatMap]; exact ⟨l, mem_allB l, by cases b <;> simp⟩
def likeOk (ms : List Bool) : Bool := match toks 999 (chars ms) with
  | some r => (r.contains 33 || r.contains 34) == adj ms
  | none => false
theorem like_all : ((List.range 8).all fun n => (allB n).all likeOk) = true := by decide +kernel
theorem like_of {ms : List Bool} (h : ms.length <= 7) : likeOk ms = true := by
  have := List.all_eq_true.mp like_all ms.length (by simp; omega); exact List.all_eq_true.mp this ms (mem_allB ms)
theorem any_int (k : Int) : ∀ (l : List Int), anyF (fun y => eqF 0 y (.int k)) (l.map .int) = some (l.contains k)
  | [] => rfl
  | a :: l => by
    have e : eqF 0 (.int a) (.int k) = some (a == k) := rfl; simp only [List.map_cons, anyF, any_int k l, e, List.contains_cons]; congr 2; rw [Bool.eq_iff_iff, beq_iff_eq, beq_iff_eq]; exact eq_comm
theorem in_ints (k : Int) (l : List Int) : cmpF .In (.int k) (intL l) = some (l.contains k) := by
  show (if (l.map PV.int).all PV.scalar then anyF (fun y => eqF 0 y (.int k)) (l.map .int) else none) = _; rw [if_pos (by simp [PV.scalar]), any_int]
theorem notin_ints (k : Int) (l : List Int) : cmpF .NotIn (.int k) (intL l) = some (!l.contains k) := by
  show (if (l.map PV.int).all PV.scalar then (anyF (fun y => eqF 0 y (.int k)) (l.map .int)).map (!·) else none) = _; rw [if_pos (by simp [PV.scalar]), any_int]; rfl
theorem count_gen {α : Type} (f : α -> PV) (hs : ∀ a, (f a).scalar = true) (p : PV) (q : α -> Bool) (h : ∀ a, eqF 0 (f a) p = some (q a)) : ∀ l : List α, meF .count (.lst (l.map f)) [p] = some (.int ((l.countP q : Nat) : Int)) := by
  intro l; have key : ∀ l : List α, countF (fun y => eqF 0 y p) (l.map f) = some (l.countP q) := by
    intro l
    induction l with
    | nil => rfl
    | cons a l ih =>
      simp only [List.map_cons, countF, h a, ih, List.countP_cons]; cases q a <;> rfl
  show (if (l.map f).all PV.scalar then (countF (fun y => eqF 0 y p) (l.map f)).map (fun n : Nat => PV.int (n : Int)) else none) = _; rw [if_pos (by simp [hs]), key]; rfl
theorem count_mk (b : Bool) (bs : List Bool) : meF .count (.lst (bs.map mkS)) [mkS b] = some (.int ((bs.countP (· == b) : Nat) : Int)) :=
  count_gen mkS (fun a => rfl) _ (· == b) (fun a => by
    unfold mkS; show some (sx _ == sx _) = _; rw [sx_beq]; cases a <;> cases b <;> rfl) bs
theorem count_int (k : Int) (l : List Int) : meF .count (intL l) [.int k] = some (.int ((l.countP (· == k) : Nat) : Int)) :=
  count_gen PV.int (fun a => rfl) _ (· == k) (fun a => rfl) l
namespace L2
variable {n : Nat}
theorem other_den (b : Bool) : FT funs (n + 1) 12 [mkS b] = some (mkS (!b)) := by
  rw [ft n 12 f_law_other _ rfl]; apply fun_r rfl; show rets (denSs _ f_law_other.code [some (mkS b)]) = _; unfold f_law_other; refine r_ret ?_; rw [show ("<" : Str) = sx [60] from rfl, show (">" : Str) = sx [62] from rfl]; unfold mkS; simp only [denE, denEs, denI, lk, st, EVL, c_eq_ss]; cases b <;> rfl
theorem readc (n : Nat) (args : List PV) : FT funs (n + 1) 10 args = denF (FT funs n) Co.f_law_read args := ft n 10 f_law_read args rfl
theorem like_den {ms : List Bool} (h : ms.length <= 7) : FT funs (n + 2) 13 [.lst (ms.map mkS)] = some (.bool (adj ms)) := by
  have hl := like_of h; unfold likeOk at hl; split at hl
  · rename_i r hr; rw [ft (n + 1) 13 f_law_like _ rfl]; apply fun_r rfl; show rets (denSs _ f_law_like.code [some (.lst (ms.map mkS)), none]) = _; unfold f_law_like; have hread : FT funs (n + 1) 10 [.str (sx (chars ms))] = some (intL r) := by
      rw [readc]; exact read_den hr (by simp [chars]; omega)
    refine r_seq (asg (p := intL r) ?_) ?_
    · rw [show ("" : Str) = sx [] from rfl]; simp only [denE, denEs, denI, lk, st, EVL, join_marks ms (by omega), hread]
    · simp only [st]; refine r_ret ?_; have hh := eq_of_beq hl; simp only [denE, denEs, denI, lk, st, EVL, in_ints]; rw [<- hh]; cases r.contains 33 <;> rfl
  · cases hl
end L2
end Mine
end
section
open PySem PySem.W PyProof.Rows
namespace Mine
abbrev Col := Int × Int × Int
def lp (t : Col) : PV := intL [t.1, t.2.1, t.2.2]
def sumC : List Col -> Col
  | [] => (0, 0, 0)
  | t :: l => (t.1 + (sumC l).1, t.2.1 + (sumC l).2.1, t.2.2 + (sumC l).2.2)
def norm (t : Col) : Col := (t.1 - minL [t.1, t.2.1, t.2.2], t.2.1 - minL [t.1, t.2.1, t.2.2], t.2.2 - minL [t.1, t.2.1, t.2.2])
def opp (t : Col) : Col := (maxL [t.1, t.2.1, t.2.2] - t.1, maxL [t.1, t.2.1, t.2.2] - t.2.1, maxL [t.1, t.2.1, t.2.2] - t.2.2)
def pts (bs : List Bool) : Nat := bs.countP (· == false) + 2 * bs.countP (· == true)
def small (t : Col) : Bool := smallS t.1 && smallS t.2.1 && smallS t.2.2
theorem bi_sum (l : List Int) (h : l.all smallS = true) (hl : l.length <= 1000) : biF .sum [intL l] = some (.int l.sum) := by
  show (match intsOf (l.map .int) with | some ns => if ns.all smallS && decide (ns.length <= 1000) then some (PV.int ns.sum) else none | none => none) = _; rw [intsOf_map]; simp only [h, hl, decide_true, Bool.and_self, if_true]
theorem sum1 : ∀ ls : List Col, (ls.map (·.1)).sum = (sumC ls).1
  | [] => rfl
  | t :: l => by simp only [List.map_cons, List.sum_cons, sumC]; rw [sum1 l]
theorem sum2 : ∀ ls : List Col, (ls.map (·.2.1)).sum = (sumC ls).2.1
  | [] => rfl
  | t :: l => by simp only [List.map_cons, List.sum_cons, sumC]; rw [sum2 l]
theorem sum3 : ∀ ls : List Col, (ls.map (·.2.2)).sum = (sumC ls).2.2
  | [] => rfl
  | t :: l => by simp only [List.map_cons, List.sum_cons, sumC]; rw [sum3 l]
namespace L2
variable {n : Nat}
theorem due_den {ls : List Col} {bs : List Bool} (h : ls.all small = true) (hl : ls.length <= 100) (hb : bs.length <= 100) :
    FT funs (n + 1) 17 [.lst (ls.map lp), .lst (bs.map mkS)] = some (.tup [mkS (!decide (pts bs % 3 = 1)), lp (if pts bs % 3 = 1 then norm (sumC ls) else opp (norm (sumC ls)))]) := by
  rw [ft n 17 f_law_due _ rfl]; apply fun_r rfl; show rets (denSs _ f_law_due.code [some (.lst (ls.map lp)), some (.lst (bs.map mkS)), none, none, none, none, none]) = _; unfold f_law_due; have hs : ∀ t ∈ ls, smallS t.1 = true /\ smallS t.2.1 = true /\ smallS t.2.2 = true := by
    intro t ht; have := List.all_eq_true.mp h t ht; unfold small at this; simp only [Bool.and_eq_true] at this; exact ⟨this.1.1, this.1.2, this.2⟩
  have item : ∀ (k : Int) (g : Col -> Int) (v4 : Option PV), (∀ t, getF (lp t) (.int k) = some (.int (g t))) -> (∀ t ∈ ls, smallS (g t) = true) ->
      denE (FT funs n) (.bi .sum (.cons (.comp (.sub (.var 6) (.var 5)) 6 (.val (.var 0)) false (.cst .none)) .nil)) (st [some (.lst (ls.map lp)), some (.lst (bs.map mkS)), none, none, none, none, none] 5 (.int k)) = some (.int (ls.map g).sum) := by
    intro k g v4 hg hs'; have hc : denE (FT funs n) (.comp (.sub (.var 6) (.var 5)) 6 (.val (.var 0)) false (.cst .none)) (st [some (.lst (ls.map lp)), some (.lst (bs.map mkS)), none, none, none, none, none] 5 (.int k)) = some (intL (ls.map g)) := by
      have := comp_map (F := FT funs n) (pe := st [some (.lst (ls.map lp)), some (.lst (bs.map mkS)), none, none, none, none, none] 5 (.int k)) (src := .val (.var 0)) (e := .sub (.var 6) (.var 5)) (c := .cst .none) (tg := 6) (items := ls.map lp) (fun p => match getF p (.int k) with | some v => v | none => .none) (di_lst (by simp only [denE, denEs, denI, lk, st, EVL]; try rfl) (by simp; omega)) (by
        intro p hp; obtain ⟨t, ht, rfl⟩ := List.mem_map.mp hp; simp only [denE, denEs, denI, lk, st, EVL, hg])
      rw [this]; congr 2; rw [List.map_map, List.map_map]; refine List.map_congr_left fun t ht => ?_; simp only [Function.comp, hg]
    simp only [denE, denEs] at hc ⊢; rw [hc]; simp only; exact bi_sum _ (by simp only [List.all_map, List.all_eq_true]; exact fun t ht => hs' t ht) (by simp; omega)
  refine r_seq (asg (p := lp (sumC ls)) ?_) ?_
  · refine (comp_three (p := .int 0) (q := .int 1) (r := .int 2) (di_rng (n := 3) rfl (by decide)) (item 0 (·.1) none (fun t => getF_l (by decide) (by decide) rfl) (fun t ht => (hs t ht).1)) (item 1 (·.2.1) none (fun t => getF_l (by decide) (by decide) rfl) (fun t ht => (hs t ht).2.1)) (item 2 (·.2.2) none (fun t => getF_l (by decide) (by decide) rfl) (fun t ht => (hs t ht).2.2))).trans ?_; rw [sum1, sum2, sum3]; rfl
  simp only [st]; refine r_seq (asg (p := lp (norm (sumC ls))) ?_) ?_
  · have hmin := bi_minL [(sumC ls).1, (sumC ls).2.1, (sumC ls).2.2] rfl; refine (comp_three (p := .int (sumC ls).1) (q := .int (sumC ls).2.1) (r := .int (sumC ls).2.2) (p' := .int (norm (sumC ls)).1) (q' := .int (norm (sumC ls)).2.1) (r' := .int (norm (sumC ls)).2.2) (di_lst rfl (by simp)) ?_ ?_ ?_).trans rfl
    · unfold lp; simp only [denE, denEs, denI, lk, st, EVL, hmin]; rfl
    · unfold lp; simp only [denE, denEs, denI, lk, st, EVL, hmin]; rfl
    · unfold lp; simp only [denE, denEs, denI, lk, st, EVL, hmin]; rfl
  simp only [st]; have hcnt : denE (FT funs n) (.cmp .Eq (.bin .Mod (.bin .Add (.me .count (.var 1) (.cons (.cst (.str ("<" : Str))) .nil)) (.bin .Mult (.cst (.int 2)) (.me .count (.var 1) (.cons (.cst (.str (">" : Str))) .nil)))) (.cst (.int 3))) (.cst (.int 1)))
      [some (.lst (ls.map lp)), some (.lst (bs.map mkS)), some (lp (norm (sumC ls))), none, none, none, none] = some (.bool (decide (pts bs % 3 = 1))) := by
    rw [show PV.str ("<" : Str) = mkS false from rfl, show PV.str (">" : Str) = mkS true from rfl]; simp only [denE, denEs, denI, lk, st, EVL, count_mk, b_mul_ii 2 _ (by decide), b_mod_ii _ 3 (by decide)]; congr 2; unfold pts; rw [Bool.eq_iff_iff]; simp only [beq_iff_eq, decide_eq_true_eq]; omega
  by_cases hp : pts bs % 3 = 1
  · rw [if_pos hp]; simp only [hp, decide_true, Bool.not_true] at hcnt ⊢; refine r_ite_t hcnt (r_ret ?_); simp only [denE, denEs, denI, lk, st, EVL]; rfl
  · rw [if_neg hp]; simp only [hp, decide_false, Bool.not_false] at hcnt ⊢; refine r_seq (ite_f hcnt seq_nil) ?_; refine r_ret ?_; have hmax := bi_maxL [(norm (sumC ls)).1, (norm (sumC ls)).2.1, (norm (sumC ls)).2.2] rfl; generalize norm (sumC ls) = t at *; have hc : denE (FT funs n) (.comp (.bin .Sub (.bi .max (.cons (.var 2) .nil)) (.var 3)) 3 (.val (.var 2)) false (.cst .none)) [some (.lst (ls.map lp)), some (.lst (bs.map mkS)), some (lp t), none, none, none, none] = some (lp (opp t)) := by
      refine (comp_three (p := .int t.1) (q := .int t.2.1) (r := .int t.2.2) (p' := .int (opp t).1) (q' := .int (opp t).2.1) (r' := .int (opp t).2.2) (di_lst rfl (by simp)) ?_ ?_ ?_).trans rfl
      · unfold lp; simp only [denE, denEs, denI, lk, st, EVL, hmax]; rfl
      · unfold lp; simp only [denE, denEs, denI, lk, st, EVL, hmax]; rfl
      · unfold lp; simp only [denE, denEs, denI, lk, st, EVL, hmax]; rfl
    simp only [denE, denEs] at hc ⊢; rw [hc]; rfl
end L2
end Mine
end
section
open PySem PySem.W PyProof.Rows
namespace Mine
namespace L2
def partsC (ls : List Col) (bs : List Bool) : Col := if pts bs % 3 = 1 then norm (sumC ls) else opp (norm (sumC ls))
structure Lt (k : Int) (t : Col) : Prop where
  a0 : 0 <= t.1
  b0 : 0 <= t.2.1
  c0 : 0 <= t.2.2
  a1 : t.1 <= k
  b1 : t.2.1 <= k
  c1 : t.2.2 <= k
  pl : t.2.2 < t.2.1 \/ (t.2.1 = t.2.2 /\ t.2.1 < t.1)
theorem Lt.add {k m : Int} {t u : Col} (h : Lt k t) (h' : Lt m u) : Lt (k + m) (t.1 + u.1, t.2.1 + u.2.1, t.2.2 + u.2.2) := by
  obtain ⟨a0, b0, c0, a1, b1, c1, pl⟩ := h; obtain ⟨a0', b0', c0', a1', b1', c1', pl'⟩ := h'; constructor <;> simp only <;> omega
theorem sum_lt {ls : List Col} (h : ∀ t ∈ ls, Lt 1024 t) (hn : ls ≠ []) : Lt (1024 * ls.length) (sumC ls) := by
  induction ls with
  | nil => exact absurd rfl hn
  | cons t l ih =>
    by_cases hl : l = []
    · subst hl; have := h t (by simp); obtain ⟨a0, b0, c0, a1, b1, c1, pl⟩ := this; constructor <;> simp [sumC] <;> omega
    · have h1 := Lt.add (h t (by simp)) (ih (fun u hu => h u (by simp [hu])) hl); have e : (1024 : Int) * ((t :: l).length : Int) = 1024 + 1024 * (l.length : Int) := by simp; omega
      rw [e]; exact h1
theorem norm_lt {k : Int} {t : Col} (h : Lt k t) : Lt k (norm t) /\ minL [(norm t).1, (norm t).2.1, (norm t).2.2] = 0 := by
  obtain ⟨a0, b0, c0, a1, b1, c1, pl⟩ := h; have h1 := minL3 t.1 t.2.1 t.2.2; unfold norm; simp only; generalize minL [t.1, t.2.1, t.2.2] = m at *; have h2 := minL3 (t.1 - m) (t.2.1 - m) (t.2.2 - m); generalize minL [t.1 - m, t.2.1 - m, t.2.2 - m] = m' at *; refine ⟨⟨?_, ?_, ?_, ?_, ?_, ?_, ?_⟩, ?_⟩ <;> (try simp only) <;> omega
def Bd (k : Int) (t : Col) : Prop := 0 <= t.1 /\ t.1 <= k /\ 0 <= t.2.1 /\ t.2.1 <= k /\ 0 <= t.2.2 /\ t.2.2 <= k
theorem Bd.opp {k : Int} {t : Col} (h : Bd k t) : Bd k (opp t) := by
  obtain ⟨h1, h2, h3, h4, h5, h6⟩ := h; have := maxL3 t.1 t.2.1 t.2.2; unfold Mine.opp; generalize maxL [t.1, t.2.1, t.2.2] = m at *; refine ⟨?_, ?_, ?_, ?_, ?_, ?_⟩ <;> simp only <;> omega
theorem Lt.bd {k : Int} {t : Col} (h : Lt k t) : Bd k t := ⟨h.a0, h.a1, h.b0, h.b1, h.c0, h.c1⟩
theorem parts_bd {ls : List Col} {bs : List Bool} (h : ∀ t ∈ ls, Lt 1024 t) (hn : ls ≠ []) : Bd (1024 * ls.length) (partsC ls bs) := by
  have := norm_lt (sum_lt h hn); unfold partsC; split
  · exact this.1.bd
  · exact this.1.bd.opp
theorem plain_norm {k : Int} {t : Col} (h : Lt k t) : isPlain (norm t).1 (norm t).2.1 (norm t).2.2 = true := by
  obtain ⟨a0, b0, c0, a1, b1, c1, pl⟩ := (norm_lt h).1; unfold isPlain; simp only [decide_eq_true_eq]; omega
theorem plain_opp {k : Int} {t : Col} (h : Lt k t) : isPlain (opp t).1 (opp t).2.1 (opp t).2.2 = false := by
  obtain ⟨a0, b0, c0, a1, b1, c1, pl⟩ := h; unfold isPlain opp; simp only [decide_eq_false_iff_not]; omega
theorem parts_mark {ls : List Col} {bs : List Bool} (h : ∀ t ∈ ls, Lt 1024 t) (hn : ls ≠ []) : isPlain (partsC ls bs).1 (partsC ls bs).2.1 (partsC ls bs).2.2 = decide (pts bs % 3 = 1) := by
  unfold partsC
  by_cases hp : pts bs % 3 = 1
  · rw [if_pos hp]; simp only [hp, decide_true]; exact plain_norm (sum_lt h hn)
  · rw [if_neg hp]; simp only [hp, decide_false]; exact plain_opp (norm_lt (sum_lt h hn)).1
theorem sum_app : ∀ (a b : List Col), sumC (a ++ b) = ((sumC a).1 + (sumC b).1, (sumC a).2.1 + (sumC b).2.1, (sumC a).2.2 + (sumC b).2.2)
  | [], b => by simp [sumC]
  | t :: a, b => by
    simp only [List.cons_append, sumC, sum_app a b]; refine Prod.ext ?_ (Prod.ext ?_ ?_) <;> simp only <;> omega
theorem pts_app (a b : List Bool) : pts (a ++ b) = pts a + pts b := by
  unfold pts; simp only [List.countP_append]; omega
theorem opp_eq (t : Col) : ∃ m, (t.1 <= m /\ t.2.1 <= m /\ t.2.2 <= m /\ (m = t.1 \/ m = t.2.1 \/ m = t.2.2)) /\ opp t = (m - t.1, m - t.2.1, m - t.2.2) := ⟨_, maxL3 _ _ _, rfl⟩
theorem norm_eq (t : Col) : ∃ m, (m <= t.1 /\ m <= t.2.1 /\ m <= t.2.2 /\ (m = t.1 \/ m = t.2.1 \/ m = t.2.2)) /\ norm t = (t.1 - m, t.2.1 - m, t.2.2 - m) := ⟨_, minL3 _ _ _, rfl⟩
def addC (t u : Col) : Col := (t.1 + u.1, t.2.1 + u.2.1, t.2.2 + u.2.2)
theorem melt_parts {la lb : List Col} {ba bb : List Bool} (h0 : pts ba % 3 = 1 \/ pts ba % 3 = 2) (h : pts ba % 3 = pts bb % 3) : opp (norm (addC (partsC la ba) (partsC lb bb))) = partsC (la ++ lb) (ba ++ bb) := by
  unfold partsC; rw [pts_app, sum_app]; generalize sumC la = x; generalize sumC lb = y; obtain ⟨x1, x2, x3⟩ := x; obtain ⟨y1, y2, y3⟩ := y; rcases h0 with h0 | h0
  · rw [if_pos h0, if_pos (by omega), if_neg (by omega)]; congr 1; obtain ⟨m, hm, em⟩ := norm_eq (x1, x2, x3); obtain ⟨k, hk, ek⟩ := norm_eq (y1, y2, y3); rw [em, ek]; unfold addC; simp only at hm hk ⊢; obtain ⟨p, hp, ep⟩ := norm_eq (x1 - m + (y1 - k), x2 - m + (y2 - k), x3 - m + (y3 - k)); obtain ⟨q, hq, eq⟩ := norm_eq (x1 + y1, x2 + y2, x3 + y3); rw [ep, eq]; simp only at hp hq; refine Prod.ext ?_ (Prod.ext ?_ ?_) <;> simp only <;> omega
  · rw [if_neg (by omega), if_neg (by omega), if_pos (by omega)]; obtain ⟨m, hm, em⟩ := norm_eq (x1, x2, x3); obtain ⟨k, hk, ek⟩ := norm_eq (y1, y2, y3); rw [em, ek]; simp only at hm hk ⊢; obtain ⟨m', hm', em'⟩ := opp_eq (x1 - m, x2 - m, x3 - m); obtain ⟨k', hk', ek'⟩ := opp_eq (y1 - k, y2 - k, y3 - k); rw [em', ek']; unfold addC; simp only at hm' hk' ⊢; obtain ⟨p, hp, ep⟩ := norm_eq (m' - (x1 - m) + (k' - (y1 - k)), m' - (x2 - m) + (k' - (y2 - k)), m' - (x3 - m) + (k' - (y3 - k))); rw [ep]; simp only at hp ⊢; obtain ⟨p', hp', ep'⟩ := opp_eq (m' - (x1 - m) + (k' - (y1 - k)) - p, m' - (x2 - m) + (k' - (y2 - k)) - p, m' - (x3 - m) + (k' - (y3 - k)) - p); obtain ⟨q, hq, eq⟩ := norm_eq (x1 + y1, x2 + y2, x3 + y3); rw [ep', eq]; simp only at hp' hq; refine Prod.ext ?_ (Prod.ext ?_ ?_) <;> simp only <;> omega
def share (x : Int) : Int := 1 + x / 512 % 4
def lightC (p s : Int) : Col := (lampI p s 0, lampI p s 512, lampI p s 1024)
theorem share_cases (x : Int) : share x = 1 \/ share x = 2 \/ share x = 3 \/ share x = 4 := by unfold share; omega
theorem light_lt {p s : Int} (h0 : 0 <= p) (h1 : p < 256) (hs : s = 1 \/ s = 2 \/ s = 3 \/ s = 4) : Lt 1024 (lightC p s) /\ norm (lightC p s) = lightC p s /\ lightC (p + 256) s = opp (lightC p s) := by
  have e0 : (3 * p - 0) % 1536 = 3 * p := by omega
  have e1 : (3 * p - 512) % 1536 = if 3 * p < 512 then 3 * p + 1024 else 3 * p - 512 := by split <;> omega
  have e2 : (3 * p - 1024) % 1536 = 3 * p + 512 := by omega
  have e3 : (3 * (p + 256) - 0) % 1536 = 3 * p + 768 := by omega
  have e4 : (3 * (p + 256) - 512) % 1536 = 3 * p + 256 := by omega
  have e5 : (3 * (p + 256) - 1024) % 1536 = if 3 * p < 256 then 3 * p + 1280 else 3 * p - 256 := by split <;> omega
  have key : lightC p s = (s * (if 3 * p <= 256 then 256 else if 3 * p < 512 then 512 - 3 * p else 0), s * (if 3 * p <= 256 then 3 * p else 256), s * (if 3 * p <= 512 then 0 else 3 * p - 512)) := by
    unfold lightC lampI; rw [e0, e1, e2]; refine Prod.ext ?_ (Prod.ext ?_ ?_) <;> (simp only; congr 1; split <;> omega)
  have key' : lightC (p + 256) s = (s * (256 - if 3 * p <= 256 then 256 else if 3 * p < 512 then 512 - 3 * p else 0), s * (256 - if 3 * p <= 256 then 3 * p else 256), s * (256 - if 3 * p <= 512 then 0 else 3 * p - 512)) := by
    unfold lightC lampI; rw [e3, e4, e5]; refine Prod.ext ?_ (Prod.ext ?_ ?_) <;> (simp only; congr 1; split <;> omega)
  rw [key', key]; generalize hx : (if 3 * p <= 256 then 256 else if 3 * p < 512 then 512 - 3 * p else 0) = x; generalize hy : (if 3 * p <= 256 then 3 * p else 256) = y; generalize hz : (if 3 * p <= 512 then 0 else 3 * p - 512) = z; have hb : 0 <= x /\ x <= 256 /\ 0 <= y /\ y <= 256 /\ 0 <= z /\ z <= 256 /\ (x = 0 \/ z = 0 \/ y = 0) /\ (x = 256 \/ y = 256) /\ (z < y \/ (y = z /\ y < x)) := by
    subst hx hy hz; split <;> split <;> (try split) <;> omega
  clear hx hy hz key key' e0 e1 e2 e3 e4 e5; obtain ⟨m, hm, em⟩ := norm_eq (s * x, s * y, s * z); obtain ⟨m', hm', em'⟩ := opp_eq (s * x, s * y, s * z); rw [em, em']; simp only at hm hm'; refine ⟨⟨?_, ?_, ?_, ?_, ?_, ?_, ?_⟩, Prod.ext ?_ (Prod.ext ?_ ?_), Prod.ext ?_ (Prod.ext ?_ ?_)⟩ <;> (rcases hs with rfl | rfl | rfl | rfl <;> simp only <;> omega)
end L2
end Mine
end
section
open PySem PySem.W PyProof.Rows
namespace Mine
namespace L2
inductive Tr where
  | leaf (k : Nat) (kd : List Pc)
  | node (a b : Tr)
def Tr.f : Tr -> Nat
  | .leaf k _ => k
  | .node a _ => a.f
def Tr.l : Tr -> Nat
  | .leaf k _ => k + 1
  | .node _ b => b.l
def Tr.pcs : Tr -> List Pc
  | .leaf k kd => ([97 + k], false) :: kd
  | .node a b => ([40], false) :: (a.pcs ++ (b.pcs ++ [([41], false)]))
def Tr.dep (s : Nat) : Tr -> Nat
  | .leaf _ _ => 0
  | .node a b => (if a.f <= s /\ s < b.l then 1 else 0) + a.dep s + b.dep s
def seg {α : Type} (x : List α) (t : Tr) : List α := (x.take t.l).drop t.f
def mkT (bs : List Bool) (t : Tr) : Bool := !decide (pts (seg bs t) % 3 = 1)
structure KdOk (kd : List Pc) : Prop where
  ok : PcsOk kd
  two : ∀ u ∈ uns false (bareP kd), u.length = 2
  low : ∀ c ∈ flatP kd, c < 97
  len : (flatP kd).length <= 5
inductive Ok (bs : List Bool) : Tr -> Prop
  | leaf {k : Nat} {kd : List Pc} : k < bs.length -> KdOk kd -> Ok bs (.leaf k kd)
  | node {a b : Tr} : Ok bs a -> Ok bs b -> a.l = b.f -> pts (seg bs a) % 3 = pts (seg bs b) % 3 -> Ok bs (.node a b)
theorem Ok.lt {bs : List Bool} : ∀ {t : Tr}, Ok bs t -> t.f < t.l /\ t.l <= bs.length
  | .leaf k kd, .leaf h _ => ⟨by simp [Tr.f, Tr.l], by simp [Tr.l]; omega⟩
  | .node a b, .node ha hb h _ => by
    have := ha.lt; have := hb.lt; simp only [Tr.f, Tr.l]; omega
theorem seg_app {α : Type} {x : List α} {i j k : Nat} (h1 : i <= j) (h2 : j <= k) (h3 : j <= x.length) : (x.take k).drop i = (x.take j).drop i ++ (x.take k).drop j := by
  have e : x.take k = x.take j ++ (x.take k).drop j := by
    have := List.take_append_drop j (x.take k); rw [List.take_take, Nat.min_eq_left h2] at this; exact this.symm
  conv => lhs; rw [e]
  rw [List.drop_append_of_le_length (by simp; omega)]
theorem seg_node {α : Type} {x : List α} {bs : List Bool} (hx : x.length = bs.length) {a b : Tr} (ha : Ok bs a) (hb : Ok bs b) (h : a.l = b.f) : seg x (.node a b) = seg x a ++ seg x b := by
  unfold seg; simp only [Tr.f, Tr.l]; rw [<- h]; have := ha.lt; have := hb.lt; exact seg_app (by omega) (by omega) (by omega)
theorem seg_leaf {α : Type} {x : List α} {k : Nat} {kd : List Pc} (h : k < x.length) : seg x (.leaf k kd) = [x[k]] := by
  unfold seg; simp only [Tr.f, Tr.l]; rw [List.drop_take, show k + 1 - k = 1 by omega, List.take_one, List.head?_drop]; simp [h]
theorem Ok.pts {bs : List Bool} : ∀ {t : Tr}, Ok bs t -> pts (seg bs t) % 3 = 1 \/ pts (seg bs t) % 3 = 2
  | .leaf k kd, .leaf h _ => by
    rw [seg_leaf h]; unfold Mine.pts; cases bs[k] <;> simp
  | .node a b, .node ha hb h hm => by
    rw [seg_node rfl ha hb h, pts_app]; have := ha.pts; omega
theorem mk_node {bs : List Bool} {a b : Tr} (ha : Ok bs a) (hb : Ok bs b) (h : a.l = b.f) (hm : Mine.pts (seg bs a) % 3 = Mine.pts (seg bs b) % 3) : mkT bs a = !mkT bs (.node a b) /\ mkT bs b = !mkT bs (.node a b) := by
  have := ha.pts; unfold mkT; rw [seg_node rfl ha hb h, pts_app]
  by_cases h1 : Mine.pts (seg bs a) % 3 = 1
  · have h2 : Mine.pts (seg bs b) % 3 = 1 := by omega
    have h3 : ¬ (Mine.pts (seg bs a) + Mine.pts (seg bs b)) % 3 = 1 := by omega
    simp [h1, h2, h3]
  · have h2 : ¬ Mine.pts (seg bs b) % 3 = 1 := by omega
    have h3 : (Mine.pts (seg bs a) + Mine.pts (seg bs b)) % 3 = 1 := by omega
    simp [h1, h2, h3]
theorem pl_one {c : Nat} (h : c ≠ 92) (h' : c ≠ 34) : Pl [c] := by
  refine ⟨by simp [pend, h], ?_⟩; intro u hu; simp [uns, h] at hu; subst hu
  simpa using h'
theorem uns_one {c : Nat} (h : c ≠ 92) (r : List Nat) : uns false (c :: r) = [c] :: uns false r := by
  simp only [uns, h, if_false]
theorem Ok.pcsOk {bs : List Bool} (hb : bs.length <= 20) : ∀ {t : Tr}, Ok bs t -> PcsOk t.pcs
  | .leaf k kd, .leaf h hk => by
    intro p hp; rcases List.mem_cons.mp hp with rfl | hp
    · exact pl_one (by omega) (by omega)
    · exact hk.ok p hp
  | .node a b, .node ha hb' h hm => by
    intro p hp; simp only [Tr.pcs, List.mem_cons, List.mem_append, List.not_mem_nil, or_false] at hp; rcases hp with rfl | hp | hp | rfl
    · exact pl_one (by decide) (by decide)
    · exact ha.pcsOk hb p hp
    · exact hb'.pcsOk hb p hp
    · exact pl_one (by decide) (by decide)
theorem Ok.low {bs : List Bool} : ∀ {t : Tr}, Ok bs t -> ∀ c ∈ flatP t.pcs, c < 97 \/ (97 + t.f <= c /\ c < 97 + t.l)
  | .leaf k kd, .leaf h hk => by
    intro c hc; simp only [Tr.pcs, flatP, List.mem_append, List.mem_cons, List.not_mem_nil, or_false] at hc; rcases hc with rfl | hc
    · right; simp [Tr.f, Tr.l]
    · left; exact hk.low c hc
  | .node a b, .node ha hb h hm => by
    intro c hc; have h1 := ha.lt; have h2 := hb.lt; simp only [Tr.pcs, flatP, flatP_app, List.mem_append, List.mem_cons, List.not_mem_nil, or_false, List.append_nil] at hc; simp only [Tr.f, Tr.l]; rcases hc with rfl | hc | hc | rfl
    · left; decide
    · rcases ha.low c hc with h | h
      · left; exact h
      · right; omega
    · rcases hb.low c hc with h | h
      · left; exact h
      · right; omega
    · left; decide
theorem Ok.len {bs : List Bool} : ∀ {t : Tr}, Ok bs t -> (flatP t.pcs).length + 2 <= 8 * (t.l - t.f)
  | .leaf k kd, .leaf h hk => by
    have := hk.len; simp only [Tr.pcs, flatP, Tr.f, Tr.l, List.length_append, List.length_cons, List.length_nil]; omega
  | .node a b, .node ha hb h hm => by
    have h1 := ha.lt; have h2 := hb.lt; have := ha.len; have := hb.len; simp only [Tr.pcs, flatP, flatP_app, Tr.f, Tr.l, List.length_append, List.length_cons, List.length_nil]; omega
def numB (b : Bool) : Int := if b then 257 else 256
def tstep (s : List Int × List Bool) (u : List Nat) : Option (List Int × List Bool) :=
  if u.length = 1 /\ u ≠ [41] /\ u ≠ [92] then match s.1.getLast? with
    | some n => if 256 <= n then (if u = [40] then some (s.1.dropLast ++ [513 - n, 513 - n], s.2) else some (s.1.dropLast, s.2 ++ [!(n == 256)])) else none
    | none => none
  else some s
def told : List Int × List Bool -> List (List Nat) -> Option (List Int × List Bool)
  | s, [] => some s
  | s, u :: us => match tstep s u with
    | some s' => told s' us
    | none => none
theorem told_skip : ∀ (us : List (List Nat)) (s : List Int × List Bool) (rest : List (List Nat)), (∀ u ∈ us, u.length = 2) -> told s (us ++ rest) = told s rest
  | [], s, rest, _ => rfl
  | u :: us, s, rest, h => by
    have hu := h u (by simp); have : tstep s u = some s := by unfold tstep; rw [if_neg (by omega)]
    simp only [List.cons_append, told, this]; exact told_skip us s rest fun v hv => h v (by simp [hv])
theorem told_tree {bs : List Bool} (hb : bs.length <= 20) : ∀ {t : Tr}, Ok bs t -> ∀ (P : List Int) (T : List Bool) (rest : List (List Nat)), told (P ++ [numB (mkT bs t)], T) (uns false (bareP t.pcs) ++ rest) = told (P, T ++ seg bs t) rest
  | .leaf k kd, .leaf h hk, P, T, rest => by
    simp only [Tr.pcs, bareP, List.cons_append, List.nil_append]; rw [uns_one (by omega), List.cons_append]; simp only [told]; have hstep : tstep (P ++ [numB (mkT bs (.leaf k kd))], T) [97 + k] = some (P, T ++ seg bs (.leaf k kd)) := by
      unfold tstep; rw [if_pos ⟨rfl, by simp; omega, by simp; omega⟩]; simp only [List.getLast?_concat, List.dropLast_concat]; rw [seg_leaf h]; have hm : mkT bs (.leaf k kd) = bs[k] := by
        unfold mkT; rw [seg_leaf h]; unfold Mine.pts; cases bs[k] <;> rfl
      rw [hm, if_pos (by unfold numB; split <;> decide), if_neg (by simp; omega)]; cases bs[k] <;> rfl
    rw [hstep]; exact told_skip _ _ _ hk.two
  | .node a b, .node ha hb' h hm, P, T, rest => by
    obtain ⟨m1, m2⟩ := mk_node ha hb' h hm; simp only [Tr.pcs, bareP, bareP_app, List.cons_append, List.nil_append, List.append_nil]; rw [uns_one (by decide), List.cons_append, uns_app _ _ (bare_pl (ha.pcsOk hb)).1, uns_app _ _ (bare_pl (hb'.pcsOk hb)).1]; simp only [told]; have hstep : tstep (P ++ [numB (mkT bs (.node a b))], T) [40] = some ((P ++ [numB (mkT bs b)]) ++ [numB (mkT bs a)], T) := by
      unfold tstep; rw [if_pos ⟨rfl, by decide, by decide⟩]; simp only [List.getLast?_concat, List.dropLast_concat]; rw [if_pos (by unfold numB; split <;> decide), if_pos trivial, m1, m2]; congr 2; rw [List.append_assoc]; congr 1; cases mkT bs (.node a b) <;> rfl
    rw [hstep]; simp only; rw [List.append_assoc (uns false (bareP a.pcs)), told_tree hb ha, List.append_assoc (uns false (bareP b.pcs)), told_tree hb hb']; rw [seg_node rfl ha hb' h, <- List.append_assoc]; simp only [uns, told, List.cons_append, List.nil_append]; rw [if_neg (by decide)]; simp only [told, List.cons_append, List.nil_append, uns]; rfl
theorem par_skip : ∀ (us : List (List Nat)) (o : Nat), (∀ u ∈ us, u.length = 2) -> par o us = some o
  | [], o, _ => rfl
  | u :: us, o, h => by
    have hu := h u (by simp); have h1 : u ≠ [40] := fun e => by rw [e] at hu; simp at hu
    have h2 : u ≠ [41] := fun e => by rw [e] at hu; simp at hu
    simp only [par, h1, h2, if_false]; exact par_skip us o fun v hv => h v (by simp [hv])
theorem par_letter (k o : Nat) (us : List (List Nat)) : par o ([97 + k] :: us) = par o us := by
  simp only [par]; rw [if_neg (by simp; omega), if_neg (by simp; omega)]
theorem par_open (o : Nat) (us : List (List Nat)) : par o ([40] :: us) = par (o + 1) us := by simp only [par, if_true]
theorem par_close (o : Nat) (us : List (List Nat)) : par (o + 1) ([41] :: us) = par o us := by
  simp only [par]; rw [if_neg (by decide), if_pos trivial, if_neg (by omega)]; rfl
theorem par_tree {bs : List Bool} (hb : bs.length <= 20) : ∀ {t : Tr}, Ok bs t -> ∀ o : Nat, par o (uns false (bareP t.pcs)) = some o
  | .leaf k kd, .leaf h hk, o => by
    simp only [Tr.pcs, bareP, List.cons_append, List.nil_append]; rw [uns_one (by omega), par_letter]; exact par_skip _ _ hk.two
  | .node a b, .node ha hb' h hm, o => by
    simp only [Tr.pcs, bareP, bareP_app, List.cons_append, List.nil_append, List.append_nil]; rw [uns_one (by decide), par_open, uns_app _ _ (bare_pl (ha.pcsOk hb)).1, uns_app _ _ (bare_pl (hb'.pcsOk hb)).1, par_app, par_tree hb ha]; simp only [Option.bind_some]; rw [par_app, par_tree hb hb']; simp only [Option.bind_some, uns]; rw [if_neg (by decide)]; rw [par_close]; rfl
theorem spot_tree {bs : List Bool} (hb : bs.length <= 20) {s : Nat} : ∀ {t : Tr}, Ok bs t -> t.f <= s -> s < t.l ->
    ∃ A B, t.pcs = A ++ (([97 + s], false) : Pc) :: B /\ (∀ o, par o (uns false (bareP A)) = some (o + t.dep s)) /\ 97 + s ∉ flatP A /\ 97 + s ∉ flatP B
  | .leaf k kd, .leaf h hk, h1, h2 => by
    simp only [Tr.f, Tr.l] at h1 h2; have : k = s := by omega
    subst this; exact ⟨[], kd, rfl, fun o => rfl, by simp [flatP], fun hc => by have := hk.low _ hc; omega⟩
  | .node a b, .node ha hb' h hm, h1, h2 => by
    simp only [Tr.f, Tr.l] at h1 h2; have l1 := ha.lt; have l2 := hb'.lt; have notIn : ∀ {t : Tr}, Ok bs t -> (s < t.f \/ t.l <= s) -> 97 + s ∉ flatP t.pcs := by
      intro t ht hs hc; rcases ht.low _ hc with h | h
      · omega
      · omega
    have dep0 : ∀ {t : Tr}, Ok bs t -> (s < t.f \/ t.l <= s) -> t.dep s = 0 := by
      intro t ht
      induction ht with
      | leaf => intro _; rfl
      | node ha hb h hm iha ihb =>
        intro hs; have l1 := ha.lt; have l2 := hb.lt; simp only [Tr.f, Tr.l] at hs; simp only [Tr.dep]; rw [if_neg (by omega), iha (by omega), ihb (by omega)]
    by_cases hs : s < a.l
    · obtain ⟨A, B, e, hp, hA, hB⟩ := spot_tree hb ha h1 hs; refine ⟨([40], false) :: A, B ++ (b.pcs ++ [([41], false)]), by simp [Tr.pcs, e], fun o => ?_, ?_, ?_⟩
      · simp only [bareP, List.cons_append, List.nil_append]; rw [uns_one (by decide), par_open, hp]; simp only [Tr.dep]; rw [if_pos (by omega), dep0 hb' (by omega)]; congr 1; omega
      · simp only [flatP, List.mem_append, not_or]; exact ⟨by simp; omega, hA⟩
      · simp only [flatP_app, flatP, List.mem_append, not_or]; exact ⟨hB, notIn hb' (by omega), by simp; omega, by simp⟩
    · obtain ⟨A, B, e, hp, hA, hB⟩ := spot_tree hb hb' (by omega) h2; refine ⟨([40], false) :: (a.pcs ++ A), B ++ [([41], false)], by simp [Tr.pcs, e], fun o => ?_, ?_, ?_⟩
      · simp only [bareP, bareP_app, List.cons_append, List.nil_append]; rw [uns_one (by decide), par_open, uns_app _ _ (bare_pl (ha.pcsOk hb)).1, par_app, par_tree hb ha]; simp only [Option.bind_some]; rw [hp]; simp only [Tr.dep]; rw [if_pos (by omega), dep0 ha (by omega)]; congr 1; omega
      · simp only [flatP, flatP_app, List.mem_append, not_or]; exact ⟨by simp; omega, notIn ha (by omega), hA⟩
      · simp only [flatP_app, flatP, List.mem_append, not_or]; exact ⟨hB, by simp; omega, by simp⟩
def Chain : Nat -> List Tr -> Nat -> Prop
  | i, [], j => i = j
  | i, t :: r, j => t.f = i /\ Chain t.l r j
def pcsF (ts : List Tr) : List Pc := (ts.map Tr.pcs).flatten
def depF (s : Nat) (ts : List Tr) : Nat := (ts.map (Tr.dep s)).sum
end L2
end Mine
end
section
open PySem PySem.W PyProof.Rows
namespace Mine
theorem rev_range : ∀ n : Nat, (List.range n).reverse = (List.range n).map (fun k => n - 1 - k)
  | 0 => rfl
  | n + 1 => by
    rw [List.range_succ, List.reverse_append, rev_range n, List.map_append]; have h : ∀ m : Nat, (List.range (m + 1)).map (fun k => m - k) = m :: (List.range m).map (fun k => m - 1 - k) := by
      intro m; rw [List.range_succ_eq_map]; simp [Function.comp_def]; intro a _; omega
    have := h n; rw [List.range_succ, List.map_append] at this; simp only [List.reverse_cons, List.reverse_nil, List.nil_append, List.cons_append] at *; rw [show n + 1 - 1 = n by omega]; exact this.symm
theorem l_rev (l : List PV) (hl : l.length <= 100000) : sliceF (.lst l) none none (some (-1)) = some (.lst l.reverse) := by
  show (if _ then _ else _) = _; rw [if_pos ⟨hl, by simp⟩]; congr 2; unfold sliceIx sliceBounds sliceRange; simp only [Option.getD_some, show ¬ ((-1 : Int) > 0) by decide, if_false]; have e : (if ((l.length : Int) - 1 > -1) then ((l.length : Int) - 1 - -1 - -1 - 1) / (- -1) else 0).toNat = l.length := by
    split
    · rw [show (- -1 : Int) = 1 by decide, Int.ediv_one]; omega
    · have : l.length = 0 := by omega
      omega
  rw [e]; have e2 : (List.range l.length).map (fun k : Nat => ((l.length : Int) - 1 + -1 * (k : Int)).toNat) = (List.range l.length).reverse := by
    rw [rev_range]; refine List.map_congr_left fun k hk => ?_; omega
  rw [e2, List.filterMap_reverse]; have := fm_range l l.length 0; rw [List.drop_zero, List.take_length] at this; rw [show (fun x => 0 + x) = (id : Nat -> Nat) by funext x; simp, List.map_id] at this; rw [this]
namespace L2
variable {n : Nat}
theorem tstep_den (w m sn : PV) (P : List Int) (T : List Bool) (acc u : List Nat) (p : Nat) (x8 x9 : Option PV) {P' : List Int} {T' : List Bool} (h : tstep (P, T) u = some (P', T')) (hp : p + 1 = acc.length + u.length)
    (hl : acc.length + u.length <= 5000) (hP : P.length <= 5000) (hT : T.length <= 5000) (hu : ∀ c ∈ u, c < 128) :
    ∃ y8, denSs (FT funs (n + 1)) (.cons (.aug 4 .Add (.var 7)) (.cons (.ite (.cmp .NotEq (.var 6) (.bin .Sub (.bi .len (.cons (.var 4) .nil)) (.cst (.int 1)))) (.cons (.ret (.list .nil)) .nil) .nil) (.cons (.ite (.and (.cmp .Eq (.bi .len (.cons (.var 7) .nil)) (.cst (.int 1))) (.cmp .NotIn (.var 7) (.cst (.str (")\\" : Str))))) (.cons (.pop 8 2) (.cons (.ite (.not (.call 1 (.cons (.var 8) .nil))) (.cons (.ret (.list .nil)) .nil) .nil) (.cons (.ite (.cmp .Eq (.var 7) (.cst (.str ("(" : Str)))) (.cons (.asgO 2 (.bin .Add (.var 2) (.list (.cons (.bin .Sub (.cst (.int 513)) (.var 8)) (.cons (.bin .Sub (.cst (.int 513)) (.var 8)) .nil))))) .nil) (.cons (.app 5 (.ite (.cmp .Eq (.var 8) (.cst (.int 256))) (.cst (.str ("<" : Str))) (.cst (.str (">" : Str))))) .nil)) .nil))) .nil) .nil)))
      [some w, some m, some (intL P), some sn, some (.str (sx acc)), some (.lst (T.map mkS)), some (.int (p : Int)), some (.str (sx u)), x8, x9] =
      some ([some w, some m, some (intL P'), some sn, some (.str (sx (acc ++ u))), some (.lst (T'.map mkS)), some (.int (p : Int)), some (.str (sx u)), y8, x9], .next) := by
  have pos : denE (FT funs (n + 1)) (.cmp .NotEq (.var 6) (.bin .Sub (.bi .len (.cons (.var 4) .nil)) (.cst (.int 1)))) [some w, some m, some (intL P), some sn, some (.str (sx (acc ++ u))), some (.lst (T.map mkS)), some (.int (p : Int)), some (.str (sx u)), x8, x9] = some (.bool false) := by
    simp only [denE, denEs, denI, lk, st, EVL, bi_len_s (acc ++ u) (by simp; omega), c_ne_ii]; congr 2; have : ((p : Int) == ((acc ++ u).length : Int) - 1) = true := by simp; omega
    rw [this]; rfl
  have first : denS (FT funs (n + 1)) (.aug 4 .Add (.var 7)) [some w, some m, some (intL P), some sn, some (.str (sx acc)), some (.lst (T.map mkS)), some (.int (p : Int)), some (.str (sx u)), x8, x9] =
      some ([some w, some m, some (intL P), some sn, some (.str (sx (acc ++ u))), some (.lst (T.map mkS)), some (.int (p : Int)), some (.str (sx u)), x8, x9], .next) := by
    refine (aug (x := .str (sx acc)) (y := .str (sx u)) (z := .str (sx (acc ++ u))) rfl rfl ?_).trans rfl; show (if _ then _ else _) = _; rw [if_pos (by rw [sx_len, sx_len]; omega), sx_app]
  have test : denE (FT funs (n + 1)) (.and (.cmp .Eq (.bi .len (.cons (.var 7) .nil)) (.cst (.int 1))) (.cmp .NotIn (.var 7) (.cst (.str (")\\" : Str))))) [some w, some m, some (intL P), some sn, some (.str (sx (acc ++ u))), some (.lst (T.map mkS)), some (.int (p : Int)), some (.str (sx u)), x8, x9] = some (.bool (decide (u.length = 1 /\ u ≠ [41] /\ u ≠ [92]))) := by
    by_cases h1 : u.length = 1
    · obtain ⟨c, rfl⟩ := List.length_eq_one_iff.mp h1; have occ : cmpF .NotIn (.str (sx [c])) (.str (")\\" : Str)) = some (!decide (c ∈ [41, 92])) := by
        show some (!(!(Builtin.Str.occurrences (sx [41, 92]) ⟨#[c]⟩ 0 (sx [41, 92]).length 1).isEmpty)) = _; rw [StrLaws.found_one, sx_cps]
      simp only [denE, denEs, denI, lk, st, EVL, bi_len_s [c] (by simp), occ]; congr 2
      by_cases h41 : c = 41
      · subst h41; rfl
      · by_cases h92 : c = 92
        · subst h92; rfl
        · simp [h41, h92]
    · have : ((u.length : Int) == 1) = false := by simp; omega
      simp only [denE, denEs, denI, lk, st, EVL, bi_len_s u (by omega), this]; simp [h1]
  unfold tstep at h
  by_cases hc : u.length = 1 /\ u ≠ [41] /\ u ≠ [92]
  · rw [if_pos hc] at h; rw [decide_eq_true hc] at test; simp only at h; split at h
    · rename_i k hk; split at h
      · rename_i h256; have hPe : P = P.dropLast ++ [k] := by
          have hne : P ≠ [] := by intro e; rw [e] at hk; simp at hk
          have := List.dropLast_concat_getLast hne; rw [List.getLast?_eq_some_getLast hne] at hk; cases hk; exact this.symm
        generalize hQ : P.dropLast = Q at *; subst hPe; have nt : FT funs (n + 1) 1 [.int k] = some (.bool true) := by rw [nont_den]; simp; omega
        have hpop : denS (FT funs (n + 1)) (.pop 8 2) [some w, some m, some (intL (Q ++ [k])), some sn, some (.str (sx (acc ++ u))), some (.lst (T.map mkS)), some (.int (p : Int)), some (.str (sx u)), x8, x9] =
            some ([some w, some m, some (intL Q), some sn, some (.str (sx (acc ++ u))), some (.lst (T.map mkS)), some (.int (p : Int)), some (.str (sx u)), some (.int k), x9], .next) := by
          refine (pop (l := Q.map .int) (y := .int k) (by simp [lk, intL]) (by simp at hP ⊢; omega)).trans rfl
        by_cases h40 : u = [40]
        · rw [if_pos h40] at h; cases h; refine ⟨some (.int k), seq first (seq (ite_f pos seq_nil) (seq_last (ite_t test (seq hpop (seq (ite_f ?_ seq_nil) (seq_last (ite_t ?_ (seq_last (asgO (l := (Q ++ [513 - k, 513 - k]).map .int) ?_))))))))) ⟩
          · simp only [denE, denEs, denI, lk, st, EVL, nt]; rfl
          · rw [show ("(" : Str) = sx [40] from rfl]
            simp only [denE, denEs, denI, lk, st, EVL, c_eq_ss, h40]; rfl
          · simp only [denE, denEs, denI, lk, st, EVL]; unfold intL; rw [b_add_ll _ _ (by simp at hP ⊢; omega)]; simp
        · rw [if_neg h40] at h; cases h; refine ⟨some (.int k), seq first (seq (ite_f pos seq_nil) (seq_last (ite_t test (seq hpop (seq (ite_f ?_ seq_nil) (seq_last (ite_f ?_ (seq_last ((app (l := T.map mkS) (p := mkS (!(k == 256))) rfl ?_ (by simp; omega)).trans ?_)))))))))⟩
          · simp only [denE, denEs, denI, lk, st, EVL, nt]; rfl
          · rw [show ("(" : Str) = sx [40] from rfl]
            simp only [denE, denEs, denI, lk, st, EVL, c_eq_ss]; have : (u == [40]) = false := by simpa using h40
            rw [this]
          · simp only [denE, denEs, denI, lk, st, EVL]; cases k == 256 <;> rfl
          · simp only [st, List.map_append, List.map_cons, List.map_nil]
      · cases h
    · cases h
  · rw [if_neg hc] at h; cases h; rw [decide_eq_false hc] at test; exact ⟨x8, seq first (seq (ite_f pos seq_nil) (seq_last (ite_f test seq_nil)))⟩
theorem tstep_len {P : List Int} {T : List Bool} {u : List Nat} {P' : List Int} {T' : List Bool} (h : tstep (P, T) u = some (P', T')) : P'.length <= P.length + 1 /\ T'.length <= T.length + 1 := by
  unfold tstep at h; split at h
  · simp only at h; split at h
    · rename_i k hk; have hne : 0 < P.length := by
        cases P with
        | nil => simp at hk
        | cons a l => simp
      split at h
      · split at h
        · cases h; simp; omega
        · cases h; simp; omega
      · cases h
    · cases h
  · cases h; simp
theorem told_loop (w m sn : PV) (x9 : Option PV) : ∀ (its : List (Nat × List Nat)) (P : List Int) (T : List Bool) (acc : List Nat) (x6 x7 x8 : Option PV) (P' : List Int) (T' : List Bool),
    told (P, T) (its.map (·.2)) = some (P', T') -> PosOk acc.length its -> acc.length + (its.map (·.2)).flatten.length <= 2000 -> P.length + its.length <= 5000 -> T.length + its.length <= 5000 -> (∀ x ∈ its, ∀ c ∈ x.2, c < 128) ->
    ∃ y6 y7 y8, forF (denSs (FT funs (n + 1)) (.cons (.aug 4 .Add (.var 7)) (.cons (.ite (.cmp .NotEq (.var 6) (.bin .Sub (.bi .len (.cons (.var 4) .nil)) (.cst (.int 1)))) (.cons (.ret (.list .nil)) .nil) .nil) (.cons (.ite (.and (.cmp .Eq (.bi .len (.cons (.var 7) .nil)) (.cst (.int 1))) (.cmp .NotIn (.var 7) (.cst (.str (")\\" : Str))))) (.cons (.pop 8 2) (.cons (.ite (.not (.call 1 (.cons (.var 8) .nil))) (.cons (.ret (.list .nil)) .nil) .nil) (.cons (.ite (.cmp .Eq (.var 7) (.cst (.str ("(" : Str)))) (.cons (.asgO 2 (.bin .Add (.var 2) (.list (.cons (.bin .Sub (.cst (.int 513)) (.var 8)) (.cons (.bin .Sub (.cst (.int 513)) (.var 8)) .nil))))) .nil) (.cons (.app 5 (.ite (.cmp .Eq (.var 8) (.cst (.int 256))) (.cst (.str ("<" : Str))) (.cst (.str (">" : Str))))) .nil)) .nil))) .nil) .nil)))) [6, 7] (its.map itm) [some w, some m, some (intL P), some sn, some (.str (sx acc)), some (.lst (T.map mkS)), x6, x7, x8, x9] =
      some ([some w, some m, some (intL P'), some sn, some (.str (sx (acc ++ (its.map (·.2)).flatten))), some (.lst (T'.map mkS)), y6, y7, y8, x9], .next)
  | [], P, T, acc, x6, x7, x8, P', T', h, _, _, _, _, _ => by
    cases h; exact ⟨x6, x7, x8, by simp [forF]⟩
  | (p, u) :: its, P, T, acc, x6, x7, x8, P', T', h, hp, hl, hP, hT, hc => by
    simp only [List.map_cons, told] at h; split at h
    · rename_i s hs; obtain ⟨P1, T1⟩ := s; have hlen := tstep_len hs; obtain ⟨hp1, hp2⟩ := hp; simp only [List.map_cons, List.flatten_cons, List.length_append, List.length_cons] at hl hP hT; obtain ⟨y8, hstep⟩ := tstep_den (n := n) w m sn P T acc u p x8 x9 hs hp1 (by omega) (by omega) (by omega) (hc (p, u) (by simp)); obtain ⟨y6', y7', y8', ih⟩ := told_loop w m sn x9 its P1 T1 (acc ++ u) (some (.int (p : Int))) (some (.str (sx u))) y8 P' T' h (by rw [List.length_append]; exact hp2) (by rw [List.length_append]; omega) (by omega) (by omega) (fun x hx => hc x (by simp [hx])); refine ⟨y6', y7', y8', for_next rfl hstep ?_⟩; rw [ih]; simp
    · cases h
theorem forest_ok {bs : List Bool} (hb : bs.length <= 20) : ∀ {ts : List Tr} {i j : Nat}, (∀ t ∈ ts, Ok bs t) -> Chain i ts j ->
    PcsOk (pcsF ts) /\ (∀ c ∈ flatP (pcsF ts), c < 97 \/ (97 + i <= c /\ c < 97 + j)) /\ (flatP (pcsF ts)).length <= 8 * (j - i) /\ i <= j /\ (ts ≠ [] -> j <= bs.length) /\ (∀ o, par o (uns false (bareP (pcsF ts))) = some o) /\
    (∀ (P : List Int) (T : List Bool) rest, told (P ++ (ts.map fun t => numB (mkT bs t)).reverse, T) (uns false (bareP (pcsF ts)) ++ rest) = told (P, T ++ (bs.take j).drop i) rest)
  | [], i, j, _, h => by
    have h : i = j := h; subst h; refine ⟨by simp [PcsOk, pcsF], by simp [pcsF, flatP], by simp [pcsF, flatP], Nat.le_refl _, by simp, fun o => rfl, fun P T rest => ?_⟩; simp [pcsF, bareP, uns]
  | t :: ts, i, j, hok, h => by
    obtain ⟨h1, h2⟩ := h; have ht := hok t (by simp); obtain ⟨q1, q2, q3, q4, q5, q6, q7⟩ := forest_ok hb (fun u hu => hok u (by simp [hu])) h2; have l1 := ht.lt; have e : pcsF (t :: ts) = t.pcs ++ pcsF ts := by simp [pcsF]
    rw [e]; have p1 := ht.pcsOk hb; refine ⟨?_, ?_, ?_, by omega, ?_, ?_, ?_⟩
    · intro p hp; rcases List.mem_append.mp hp with hp | hp
      · exact p1 p hp
      · exact q1 p hp
    · intro c hc; rw [flatP_app] at hc; rcases List.mem_append.mp hc with hc | hc
      · rcases ht.low c hc with h | h
        · left; exact h
        · right; omega
      · rcases q2 c hc with h | h
        · left; exact h
        · right; omega
    · have := ht.len; rw [flatP_app, List.length_append]; omega
    · intro _; cases ts with
      | nil => have : t.l = j := h2; omega
      | cons u r => exact q5 (by simp)
    · intro o; rw [bareP_app, uns_app _ _ (bare_pl p1).1, par_app, par_tree hb ht]; exact q6 o
    · intro P T rest; rw [bareP_app, uns_app _ _ (bare_pl p1).1, List.map_cons, List.reverse_cons, <- List.append_assoc, List.append_assoc (uns false (bareP t.pcs)), told_tree hb ht, q7]; congr 2; rw [List.append_assoc]; congr 1; unfold seg; rw [h1]; exact (seg_app (by omega) q4 (by omega)).symm
theorem stripc (n : Nat) (args : List PV) : FT funs (n + 1) 8 args = denF (FT funs n) Co.f_strip_quoted_realnames args := ft n 8 f_strip_quoted_realnames args rfl
theorem checkc (n : Nat) (args : List PV) : FT funs (n + 1) 9 args = denF (FT funs n) (Co.f_check_parenthesis 8) args := ft n 9 f_check_parenthesis args rfl
theorem told_den {bs : List Bool} (hb : bs.length <= 20) {ts : List Tr} (hok : ∀ t ∈ ts, Ok bs t) (hch : Chain 0 ts bs.length) (hts : ts.length <= 20) :
    FT funs (n + 2) 19 [.str (sx (flatP (pcsF ts))), .lst (ts.map fun t => mkS (mkT bs t))] = some (.lst (bs.map mkS)) := by
  obtain ⟨q1, q2, q3, q4, q5, q6, q7⟩ := forest_ok hb hok hch; rw [ft (n + 1) 19 f_law_told_back _ rfl]; apply fun_r rfl; show rets (denSs _ f_law_told_back.code [some (.str (sx (flatP (pcsF ts)))), some (.lst (ts.map fun t => mkS (mkT bs t))), none, none, none, none, none, none, none, none]) = _; unfold f_law_told_back; have hlast : LastOk [92] := by
    left; simp [uns]
  have hstrip := strip_pcs q1 hlast; have hseen : FT funs (n + 1) 8 [.str (sx (flatP (pcsF ts) ++ [92]))] = some (.str (sx (bareP (pcsF ts) ++ [92]))) := by
    rw [stripc, <- hstrip]; refine strip_den (by simp; omega) ?_; rw [List.all_eq_true]; intro c hc; simp only [decide_eq_true_eq]; rcases List.mem_append.mp hc with hc | hc
    · rcases q2 c hc with h | h <;> omega
    · simp at hc; omega
  have bareSub : ∀ (l : List Pc), (∀ c ∈ bareP l, c ∈ flatP l) /\ (bareP l).length <= (flatP l).length := by
    intro l
    induction l with
    | nil => simp [bareP]
    | cons p l ih =>
      obtain ⟨s, b⟩ := p; cases b
      · simp only [bareP, flatP, List.mem_append, List.length_append]; exact ⟨fun c hc => hc.imp id (ih.1 c), by omega⟩
      · simp only [bareP, flatP, List.mem_append, List.length_append]; exact ⟨fun c hc => .inr (ih.1 c hc), by omega⟩
  have hbl := bareSub (pcsF ts); have hall : (bareP (pcsF ts) ++ [92]).all (· < 128) = true := by
    rw [List.all_eq_true]; intro c hc; simp only [decide_eq_true_eq]; rcases List.mem_append.mp hc with hc | hc
    · rcases q2 c (hbl.1 c hc) with h | h <;> omega
    · simp at hc; omega
  refine r_seq (asgO (l := ([0] ++ (ts.map fun t => numB (mkT bs t)).reverse).map .int) ?_) ?_
  · have hs : denE (FT funs (n + 1)) (.slc (.var 1) (.cst .none) (.cst .none) (.neg (.cst (.int 1)))) [some (.str (sx (flatP (pcsF ts)))), some (.lst (ts.map fun t => mkS (mkT bs t))), none, none, none, none, none, none, none, none] = some (.lst (ts.map fun t => mkS (mkT bs t)).reverse) := by
      simp only [denE, denEs, denI, lk, st, EVL, partF, l_rev _ (by simp; omega : (ts.map fun t => mkS (mkT bs t)).length <= 100000)]
    have hc := comp_map (F := FT funs (n + 1)) (pe := [some (.str (sx (flatP (pcsF ts)))), some (.lst (ts.map fun t => mkS (mkT bs t))), none, none, none, none, none, none, none, none]) (src := .val (.slc (.var 1) (.cst .none) (.cst .none) (.neg (.cst (.int 1))))) (e := .ite (.cmp .Eq (.var 9) (.cst (.str ("<" : Str)))) (.cst (.int 256)) (.cst (.int 257))) (c := .cst .none) (tg := 9) (items := (ts.map fun t => mkS (mkT bs t)).reverse)
      (fun p => match cmpF .Eq p (.str ("<" : Str)) with | some true => .int 256 | _ => .int 257) (di_lst hs (by simp; omega)) (by
        intro p hp; rw [List.mem_reverse] at hp; obtain ⟨t, ht, rfl⟩ := List.mem_map.mp hp; rw [show PV.str ("<" : Str) = mkS false from rfl]; simp only [denE, denEs, denI, lk, st, EVL, eq_mk]; cases mkT bs t <;> rfl)
    have e : ((ts.map fun t => mkS (mkT bs t)).reverse.map fun p => match cmpF .Eq p (.str ("<" : Str)) with | some true => PV.int 256 | _ => PV.int 257) = ((ts.map fun t => numB (mkT bs t)).reverse).map .int := by
      rw [<- List.map_reverse, <- List.map_reverse, List.map_map, List.map_map]; refine List.map_congr_left fun t _ => ?_; simp only [Function.comp, show PV.str ("<" : Str) = mkS false from rfl, eq_mk]; cases mkT bs t <;> rfl
    rw [e] at hc; simp only [denE, denEs] at hc ⊢; rw [hc]; simp only [Option.map_some]; rw [b_add_ll _ _ (by simp; omega)]; simp
  simp only [st]; refine r_seq (asg (p := .str (sx (bareP (pcsF ts) ++ [92]))) ?_) ?_
  · rw [show ("\\" : Str) = sx [92] from rfl]; simp only [denE, denEs, denI, lk, st, EVL, b_add_sx (flatP (pcsF ts)) [92] (by simp; omega), hseen]
  refine r_seq (asg (by simp only [denE, denEs, denI, lk, st, EVL]; try rfl)) ?_; refine r_seq (asgO (l := []) (by simp only [denE, denEs, denI, lk, st, EVL]; try rfl)) ?_; simp only [st]; have htold : told ([0] ++ (ts.map fun t => numB (mkT bs t)).reverse, []) ((esc 0 false (bareP (pcsF ts) ++ [92])).map (·.2)) = some ([0], bs) := by
    rw [esc_snd, uns_app _ _ (bare_pl q1).1, q7 [0] []]; simp only [List.nil_append, List.drop_zero, List.take_length]; rfl
  have hflat : ((esc 0 false (bareP (pcsF ts) ++ [92])).map (·.2)).flatten = bareP (pcsF ts) ++ [92] := by rw [esc_snd, uns_flat]; rfl
  have hel := esc_len (bareP (pcsF ts) ++ [92]) 0 false; have hmem : ∀ x ∈ esc 0 false (bareP (pcsF ts) ++ [92]), ∀ c ∈ x.2, c < 128 := by
    intro x hx c hc; have : c ∈ ((esc 0 false (bareP (pcsF ts) ++ [92])).map (·.2)).flatten := List.mem_flatten.mpr ⟨x.2, List.mem_map_of_mem hx, hc⟩; rw [hflat] at this; have := List.all_eq_true.mp hall c this
    simpa using this
  have hpos := posOk (bareP (pcsF ts) ++ [92]) 0 false (by simp); simp only [Bool.false_eq_true, if_false] at hpos; obtain ⟨y6, y7, y8, hloop⟩ := told_loop (n := n) (.str (sx (flatP (pcsF ts)))) (.lst (ts.map fun t => mkS (mkT bs t))) (.str (sx (bareP (pcsF ts) ++ [92]))) none (esc 0 false (bareP (pcsF ts) ++ [92])) _ [] [] none none none [0] bs htold hpos
    (by rw [hflat]; simp; omega) (by simp at hel ⊢; omega) (by simp at hel ⊢; omega) hmem
  rw [hflat] at hloop; refine r_seq (esc_s (p := .str (sx (bareP (pcsF ts) ++ [92]))) (by simp only [denE, denEs, denI, lk, st, EVL]; try rfl) (escItems_eq (by simp; omega) hall) hloop) ?_; refine r_ret ?_; simp only [denE, denEs, denI, lk, st, EVL, c_eq_ss, List.nil_append, beq_self_eq_true]; have hg : getF (intL [0]) (.int (-1)) = some (.int 0) := rfl; simp only [denE, denEs, denI, lk, st, EVL, hg, eof_den]; rfl
end L2
end Mine
end
section
open PySem PySem.W PyProof.Rows
namespace Mine
namespace L2
variable {n : Nat}
def meltL (ms : List Bool) (p : Nat) : List Bool := ms.take p ++ [!(ms.getD p false)] ++ ms.drop (p + 2)
def likeI (ms : List Bool) : List Nat := (List.range (ms.length - 1)).filter fun p => ms.getD p false == ms.getD (p + 1) false
def goodI (ms : List Bool) : List Nat := (likeI ms).filter fun p => adj (meltL ms p)
def choiceI (ms : List Bool) : List Nat := if (goodI ms).isEmpty then likeI ms else goodI ms
def finN (ms : List Bool) : Nat := if adj ms then (if pts ms % 3 = 0 then 2 else 1) else ms.length
def meltOk (ms : List Bool) : Bool := (choiceI ms).all (fun p => finN (meltL ms p) == finN ms) && (adj ms == !(likeI ms).isEmpty)
theorem melt_all : ((List.range 8).all fun n => (allB n).all meltOk) = true := by decide +kernel
theorem melt_of {ms : List Bool} (h : ms.length <= 7) : meltOk ms = true := by
  have := List.all_eq_true.mp melt_all ms.length (by simp; omega); exact List.all_eq_true.mp this ms (mem_allB ms)
theorem getD_map {α : Type} (f : α -> PV) (l : List α) (k : Nat) (d : α) (h : k < l.length) : (l.map f)[k]? = some (f (l.getD k d)) := by
  rw [List.getElem?_map, List.getElem?_eq_getElem h]; simp [List.getD, h]
theorem filter_rng (m : Nat) (q : Nat -> Bool) (b : PV -> Bool) (h : ∀ k < m, b (.int (k : Int)) = q k) : (rng m).filter b = ((List.range m).filter q).map fun k : Nat => PV.int (k : Int) := by
  unfold rng; rw [List.filter_map]; congr 1; refine List.filter_congr fun k hk => ?_; exact h k (List.mem_range.mp hk)
def nats (l : List Nat) : PV := .lst (l.map fun k : Nat => PV.int (k : Int))
section
variable {pe : PEnv} {ms : List Bool}
theorem like_eval (h11 : lk pe 11 = some (.lst (ms.map mkS))) (hs : ∀ v, lk (st pe 36 v) 36 = some v /\ lk (st pe 36 v) 11 = lk pe 11) (h1 : 1 <= ms.length) (h2 : ms.length <= 1000) :
    denE (FT funs n) (.comp (.var 36) 36 (.rng1 (.bin .Sub (.bi .len (.cons (.var 11) .nil)) (.cst (.int 1)))) true (.cmp .Eq (.sub (.var 11) (.var 36)) (.sub (.var 11) (.bin .Add (.var 36) (.cst (.int 1)))))) pe = some (nats (likeI ms)) := by
  have hlen : denE (FT funs n) (.bin .Sub (.bi .len (.cons (.var 11) .nil)) (.cst (.int 1))) pe = some (.int ((ms.length - 1 : Nat) : Int)) := by
    simp only [denE, denEs, h11]; have : biF .len [.lst (ms.map mkS)] = some (.int (ms.length : Int)) := by
      show (if _ then _ else _) = _; rw [if_pos (by simp; omega)]; simp
    rw [this]; simp only [b_sub_ii]; congr 2; omega
  have key : ∀ k < ms.length - 1, denE (FT funs n) (.cmp .Eq (.sub (.var 11) (.var 36)) (.sub (.var 11) (.bin .Add (.var 36) (.cst (.int 1))))) (st pe 36 (.int (k : Int))) = some (.bool (ms.getD k false == ms.getD (k + 1) false)) := by
    intro k hk; obtain ⟨q1, q2⟩ := hs (.int (k : Int)); have g1 : getF (.lst (ms.map mkS)) (.int (k : Int)) = some (mkS (ms.getD k false)) := getF_l (by omega) (by omega) (by rw [Int.toNat_natCast]; exact getD_map mkS ms k false (by omega)); have g2 : getF (.lst (ms.map mkS)) (.int ((k : Int) + 1)) = some (mkS (ms.getD (k + 1) false)) := getF_l (by omega) (by omega) (by rw [show ((k : Int) + 1).toNat = k + 1 by omega]; exact getD_map mkS ms (k + 1) false (by omega)); simp only [denE, q1, q2, h11, b_add_ii, g1, g2, eq_mk, Option.map_some]
  have := comp_filter (F := FT funs n) (pe := pe) (src := .rng1 (.bin .Sub (.bi .len (.cons (.var 11) .nil)) (.cst (.int 1)))) (e := .var 36) (c := .cmp .Eq (.sub (.var 11) (.var 36)) (.sub (.var 11) (.bin .Add (.var 36) (.cst (.int 1))))) (tg := 36) (items := rng (ms.length - 1))
    (fun p => p) (fun p => match p with | .int k => ms.getD k.toNat false == ms.getD (k.toNat + 1) false | _ => false) (di_rng hlen (by omega)) (by
      intro p hp; obtain ⟨k, hk, rfl⟩ := List.mem_map.mp hp; rw [List.mem_range] at hk; refine ⟨?_, fun _ => ?_⟩
      · simp only [Int.toNat_natCast]; exact key k hk
      · simp only [denE, (hs _).1])
  rw [this, List.map_id', filter_rng _ (fun p => ms.getD p false == ms.getD (p + 1) false)]
  · rfl
  · intro k hk; simp
theorem likeI_lt {p : Nat} (h : p ∈ likeI ms) : p + 1 < ms.length /\ ms.getD p false = ms.getD (p + 1) false := by
  unfold likeI at h; rw [List.mem_filter, List.mem_range] at h; exact ⟨by omega, eq_of_beq h.2⟩
theorem good_eval (h11 : lk pe 11 = some (.lst (ms.map mkS))) (h20 : lk pe 20 = some (nats (likeI ms))) (hs : ∀ v, lk (st pe 35 v) 35 = some v /\ lk (st pe 35 v) 11 = lk pe 11) (h2 : ms.length <= 7) :
    denE (FT funs (n + 2)) (.comp (.var 35) 35 (.val (.var 20)) true (.call 13 (.cons (.bin .Add (.bin .Add (.slc (.var 11) (.cst .none) (.var 35) (.cst .none)) (.list (.cons (.call 12 (.cons (.sub (.var 11) (.var 35)) .nil)) .nil))) (.slc (.var 11) (.bin .Add (.var 35) (.cst (.int 2))) (.cst .none) (.cst .none))) .nil))) pe = some (nats (goodI ms)) := by
  have key : ∀ k ∈ likeI ms, denE (FT funs (n + 2)) (.call 13 (.cons (.bin .Add (.bin .Add (.slc (.var 11) (.cst .none) (.var 35) (.cst .none)) (.list (.cons (.call 12 (.cons (.sub (.var 11) (.var 35)) .nil)) .nil))) (.slc (.var 11) (.bin .Add (.var 35) (.cst (.int 2))) (.cst .none) (.cst .none))) .nil)) (st pe 35 (.int (k : Int))) = some (.bool (adj (meltL ms k))) := by
    intro k hk; obtain ⟨hk1, hk2⟩ := likeI_lt hk; obtain ⟨q1, q2⟩ := hs (.int (k : Int)); have g1 : getF (.lst (ms.map mkS)) (.int (k : Int)) = some (mkS (ms.getD k false)) := getF_l (by omega) (by omega) (by rw [Int.toNat_natCast]; exact getD_map mkS ms k false (by omega)); have hml : (meltL ms k).length <= 7 := by unfold meltL; simp; omega
    simp only [denE, denEs, q1, q2, h11, partF, l_upto _ (k : Int) (by omega) (by simp; omega : (ms.map mkS).length <= 100000), g1, other_den, b_add_ii, l_from _ ((k : Int) + 2) (by omega) (by simp; omega : (ms.map mkS).length <= 100000), Option.map_some]; rw [b_add_ll _ _ (by simp; omega)]; simp only; rw [b_add_ll _ _ (by simp; omega)]; simp only; have e : (ms.map mkS).take (k : Int).toNat ++ [mkS (!ms.getD k false)] ++ (ms.map mkS).drop ((k : Int) + 2).toNat = (meltL ms k).map mkS := by
      unfold meltL; rw [Int.toNat_natCast, show ((k : Int) + 2).toNat = k + 2 by omega]; simp [List.map_append, List.map_take, List.map_drop]
    rw [e, like_den hml]
  have := comp_filter (F := FT funs (n + 2)) (pe := pe) (src := .val (.var 20)) (e := .var 35) (c := (.call 13 (.cons (.bin .Add (.bin .Add (.slc (.var 11) (.cst .none) (.var 35) (.cst .none)) (.list (.cons (.call 12 (.cons (.sub (.var 11) (.var 35)) .nil)) .nil))) (.slc (.var 11) (.bin .Add (.var 35) (.cst (.int 2))) (.cst .none) (.cst .none))) .nil))) (tg := 35) (items := (likeI ms).map fun k : Nat => PV.int (k : Int))
    (fun p => p) (fun p => match p with | .int k => adj (meltL ms k.toNat) | _ => false) (di_lst (by simp only [denE, h20]; rfl) (by
      have : (likeI ms).length <= ms.length - 1 := by unfold likeI; exact Nat.le_trans (List.length_filter_le ..) (by simp)
      simp; omega)) (by
      intro p hp; obtain ⟨k, hk, rfl⟩ := List.mem_map.mp hp; refine ⟨?_, fun _ => ?_⟩
      · simp only [Int.toNat_natCast]; exact key k hk
      · simp only [denE, (hs _).1])
  rw [this, List.map_id', List.filter_map]; rfl
end
end L2
end Mine
end
section
open PySem PySem.W PyProof.Rows
namespace Mine
namespace L2
def spP (t : Tr) : PV := .tup [.int (t.f : Int), .int (t.l : Int)]
def txP (t : Tr) : PV := .str (sx (flatP t.pcs))
def pc (ls : List Col) (bs : List Bool) (t : Tr) : Col := partsC (seg ls t) (seg bs t)
structure Cst where
  a0 : Option PV
  a1 : Option PV
  a2 : Option PV
  a5 : Option PV
  a9 : Option PV
  a12 : Option PV
  a13 : Option PV
  a14 : Option PV
  a16 : Option PV
structure Tmp where
  x19 : Option PV
  x20 : Option PV
  x21 : Option PV
  x22 : Option PV
  x23 : Option PV
  x24 : Option PV
  x25 : Option PV
  x26 : Option PV
  x27 : Option PV
def env (k : Cst) (nums : List Int) (bs : List Bool) (ls : List Col) (w : Int) (s : Nat) (ts : List Tr) (d : Nat) (x : Tmp) : PEnv :=
  [k.a0, k.a1, k.a2, some (intL nums), some (.lst (bs.map mkS)), k.a5, some (.lst (ls.map lp)), some (.lst (ts.map fun t => lp (pc ls bs t))), some (.int w), k.a9, some (.lst (ts.map txP)), some (.lst (ts.map fun t => mkS (mkT bs t))),
    k.a12, k.a13, k.a14, some (.int (s : Int)), k.a16, some (.int (d : Int)), some (.lst (ts.map spP)), x.x19, x.x20, x.x21, x.x22, x.x23, x.x24, x.x25, x.x26, x.x27,
    none, none, none, none, none, none, none, none, none, none, none, none, none, none, none, none, none, none, none, none]
theorem get_at {α : Type} (f : α -> PV) {pre post : List α} {a : α} (k : Int) (hk : k = (pre.length : Int)) (h : pre.length < 1000) : getF (.lst ((pre ++ a :: post).map f)) (.int k) = some (f a) := by
  subst hk; refine getF_l (by omega) (by omega) ?_; rw [Int.toNat_natCast]; simp
theorem getD_at {α : Type} {pre post : List α} {a d : α} : (pre ++ a :: post).getD pre.length d = a := by simp [List.getD]
theorem split_at {α : Type} {ts : List α} {p : Nat} (h : p + 1 < ts.length) : ∃ pre a b post, ts = pre ++ a :: b :: post /\ pre.length = p := by
  refine ⟨ts.take p, ts[p], ts[p + 1], ts.drop (p + 2), ?_, by simp; omega⟩; rw [<- List.drop_eq_getElem_cons h, <- List.drop_eq_getElem_cons (by omega), List.take_append_drop]
theorem melt_map {α : Type} (f : α -> Bool) {pre post : List α} {a b c : α} (h : f c = !f a) : (pre ++ c :: post).map f = meltL ((pre ++ a :: b :: post).map f) pre.length := by
  unfold meltL; have e1 : ((pre ++ a :: b :: post).map f).getD pre.length false = f a := by
    rw [List.map_append, List.map_cons]; have := getD_at (pre := pre.map f) (post := (b :: post).map f) (a := f a) (d := false); rw [List.length_map] at this; exact this
  rw [e1, <- h]; have e2 : ((pre ++ a :: b :: post).map f).take pre.length = pre.map f := by
    rw [List.map_append]; have : pre.length = (pre.map f).length := by simp
    rw [this, List.take_left]
  have e3 : ((pre ++ a :: b :: post).map f).drop (pre.length + 2) = post.map f := by
    rw [List.map_append, List.map_cons, List.map_cons]; have : pre.length + 2 = (pre.map f).length + 2 := by simp
    rw [this, List.drop_append]; simp
  rw [e2, e3]; simp
theorem chain_at {ts : List Tr} {bs : List Bool} : ∀ {pre : List Tr} {i j : Nat} {a b : Tr} {post : List Tr}, Chain i (pre ++ a :: b :: post) j -> a.l = b.f /\ Chain i (pre ++ Tr.node a b :: post) j
  | [], i, j, a, b, post, h => by
    obtain ⟨h1, h2, h3⟩ := h; exact ⟨h2.symm, h1, h3⟩
  | t :: pre, i, j, a, b, post, h => by
    obtain ⟨h1, h2⟩ := h; obtain ⟨h3, h4⟩ := chain_at (ts := ts) (bs := bs) h2; exact ⟨h3, h1, h4⟩
theorem mk_pts {bs : List Bool} {a b : Tr} (ha : Ok bs a) (hb : Ok bs b) (h : mkT bs a = mkT bs b) : Mine.pts (seg bs a) % 3 = Mine.pts (seg bs b) % 3 := by
  have := ha.pts; have := hb.pts; unfold mkT at h
  by_cases h1 : Mine.pts (seg bs a) % 3 = 1
  · by_cases h2 : Mine.pts (seg bs b) % 3 = 1
    · omega
    · simp [h1, h2] at h
  · by_cases h2 : Mine.pts (seg bs b) % 3 = 1
    · simp [h1, h2] at h
    · omega
structure Fr (nums : List Int) (bs : List Bool) (ls : List Col) (w : Int) (s : Nat) : Prop where
  c7 : bs.length <= 7
  nl : nums.length = bs.length
  ll : ls.length = bs.length
  n0 : ∀ x ∈ nums, 0 <= x
  lt : ∀ t ∈ ls, Lt 1024 t
  w0 : 0 <= w
  w1 : w <= 114688
  sp : s < bs.length
theorem seg_len {α : Type} {x : List α} {bs : List Bool} (hx : x.length = bs.length) {t : Tr} (h : Ok bs t) : (seg x t).length = t.l - t.f := by
  have := h.lt; unfold seg; simp; omega
theorem pc_bd {nums : List Int} {bs : List Bool} {ls : List Col} {w : Int} {s : Nat} (X : Fr nums bs ls w s) {t : Tr} (h : Ok bs t) : Bd 7168 (pc ls bs t) := by
  have hl := seg_len X.ll h; have := h.lt; have hm : ∀ u ∈ seg ls t, Lt 1024 u := fun u hu => X.lt u (List.mem_of_mem_take (List.mem_of_mem_drop hu)); have hne : seg ls t ≠ [] := fun e => by rw [e] at hl; simp at hl; omega
  obtain ⟨h1, h2, h3, h4, h5, h6⟩ := parts_bd (bs := seg bs t) hm hne; have := X.c7; unfold pc; rw [hl] at h2 h4 h6; refine ⟨h1, ?_, h3, ?_, h5, ?_⟩ <;> omega
theorem len_nats (l : List Nat) (h : l.length <= 100000) : biF .len [nats l] = some (.int (l.length : Int)) := by
  show (if (l.map fun k : Nat => PV.int (k : Int)).length <= 100000 then some (PV.int ((l.map fun k : Nat => PV.int (k : Int)).length : Int)) else none) = _; rw [List.length_map, if_pos h]
theorem get_nats {l : List Nat} {k : Int} {p : Nat} (h0 : 0 <= k) (h1 : k < 1000000) (h : l[k.toNat]? = some p) : getF (nats l) (.int k) = some (.int (p : Int)) :=
  getF_l h0 h1 (by rw [List.getElem?_map, h]; rfl)
theorem get_intL {l : List Int} {k v : Int} (h0 : 0 <= k) (h1 : k < 1000000) (h : l[k.toNat]? = some v) : getF (intL l) (.int k) = some (.int v) :=
  getF_l h0 h1 (by rw [List.getElem?_map, h]; rfl)
theorem pick_eval {F : Nat -> List PV -> Option PV} {pe : PEnv} {C N P : PV} {i v L : Int} (h22 : lk pe 22 = some C) (h3 : lk pe 3 = some N) (h19 : lk pe 19 = some (.int i)) (g1 : getF N (.int i) = some (.int v)) (g2 : biF .len [C] = some (.int L)) (hL : 0 < L) (g3 : getF C (.int (v / 16384 % L)) = some P) :
    denE F (.sub (.var 22) (.bin .Mod (.bin .FloorDiv (.sub (.var 3) (.var 19)) (.cst (.int 16384))) (.bi .len (.cons (.var 22) .nil)))) pe = some P := by
  have f1 := b_fdiv_ii v 16384 ⟨by omega, by omega⟩; have f2 := b_mod_ii (v / 16384) L hL; simp only [denE, denEs, h22, h3, h19, g1, g2, f1, f2, g3]
theorem span_eval {F : Nat -> List PV -> Option PV} {pe : PEnv} {SP X Y u v : PV} {p : Int} (h18 : lk pe 18 = some SP) (h23 : lk pe 23 = some (.int p)) (g1 : getF SP (.int p) = some X) (g2 : getF SP (.int (p + 1)) = some Y) (z0 : getF X (.int 0) = some u) (z1 : getF Y (.int 1) = some v) :
    denE F (.tup (.cons (.sub (.sub (.var 18) (.var 23)) (.cst (.int 0))) (.cons (.sub (.sub (.var 18) (.bin .Add (.var 23) (.cst (.int 1)))) (.cst (.int 1))) .nil))) pe = some (.tup [u, v]) := by
  simp only [denE, denEs, h18, h23, g1, b_add_ii, g2, z0, z1, Option.map_some]
theorem part_eval {F : Nat -> List PV -> Option PV} {pe : PEnv} {CO X Y W r : PV} {p i : Int} (h7 : lk pe 7 = some CO) (h23 : lk pe 23 = some (.int p)) (h8 : lk pe 8 = some W) (h19 : lk pe 19 = some (.int i)) (g1 : getF CO (.int p) = some X) (g2 : getF CO (.int (p + 1)) = some Y)
    (h : F 16 [X, Y, W, .int ((p + i) % 2)] = some r) : denE F (.call 16 (.cons (.sub (.var 7) (.var 23)) (.cons (.sub (.var 7) (.bin .Add (.var 23) (.cst (.int 1)))) (.cons (.var 8) (.cons (.bin .Mod (.bin .Add (.var 23) (.var 19)) (.cst (.int 2))) .nil))))) pe = some r := by
  have f := b_mod_ii (p + i) 2 (by decide); simp only [denE, denEs, h7, h23, h8, h19, g1, b_add_ii, g2, f, h]
theorem mark_eval {F : Nat -> List PV -> Option PV} {pe : PEnv} {P W r : PV} (h26 : lk pe 26 = some P) (h8 : lk pe 8 = some W) (h : F 15 [P, W] = some r) : denE F (.call 15 (.cons (.var 26) (.cons (.var 8) .nil))) pe = some r := by
  simp only [denE, denEs, h26, h8, h]
theorem due_eval {F : Nat -> List PV -> Option PV} {pe : PEnv} {P M LS DR l1 l2 : PV} {f l : Int} (h26 : lk pe 26 = some P) (h27 : lk pe 27 = some M) (h6 : lk pe 6 = some LS) (h4 : lk pe 4 = some DR) (h24 : lk pe 24 = some (.int f)) (h25 : lk pe 25 = some (.int l))
    (s1 : sliceF LS (some f) (some l) none = some l1) (s2 : sliceF DR (some f) (some l) none = some l2) (h : F 17 [l1, l2] = some (.tup [M, P])) (ne : cmpF .NotEq (.tup [M, P]) (.tup [M, P]) = some false) : denE F (.cmp .NotEq (.tup (.cons (.var 27) (.cons (.var 26) .nil))) (.call 17 (.cons (.slc (.var 6) (.var 24) (.var 25) (.cst .none)) (.cons (.slc (.var 4) (.var 24) (.var 25) (.cst .none)) .nil)))) pe = some (.bool false) := by
  simp only [denE, denEs, h26, h27, h6, h4, h24, h25, partF, s1, s2, h, ne, Option.map_some]
theorem upd_eval {F : Nat -> List PV -> Option PV} {α : Type} (f : α -> PV) {pre post : List α} {a b c : α} {e : PE} {i : Nat} {pe : PEnv} {p : Int} (hp : p = (pre.length : Int)) (tl : (pre ++ a :: b :: post).length <= 1000)
    (h1 : lk pe i = some (.lst ((pre ++ a :: b :: post).map f))) (h2 : lk pe 23 = some (.int p)) (h3 : denE F e pe = some (f c)) :
    denE F (.bin .Add (.bin .Add (.slc (.var i) (.cst .none) (.var 23) (.cst .none)) (.list (.cons e .nil))) (.slc (.var i) (.bin .Add (.var 23) (.cst (.int 2))) (.cst .none) (.cst .none))) pe = some (.lst ((pre ++ c :: post).map f)) := by
  subst hp; have L : ((pre ++ a :: b :: post).map f).length <= 100000 := by rw [List.length_map]; omega
  have s1 := l_upto _ (pre.length : Int) (by omega) L; have s2 := l_from _ ((pre.length : Int) + 2) (by omega) L; have e1 : ((pre ++ a :: b :: post).map f).take (pre.length : Int).toNat = pre.map f := by
    rw [Int.toNat_natCast, List.map_append]; have : pre.length = (pre.map f).length := by simp
    rw [this, List.take_left]
  have e2 : ((pre ++ a :: b :: post).map f).drop ((pre.length : Int) + 2).toNat = post.map f := by
    rw [show ((pre.length : Int) + 2).toNat = pre.length + 2 by omega, List.map_append, List.map_cons, List.map_cons]; have : pre.length + 2 = (pre.map f).length + 2 := by simp
    rw [this, List.drop_append]; simp
  rw [e1] at s1; rw [e2] at s2; have L1 : (pre.map f).length + [f c].length <= 100000 := by simp at tl ⊢; omega
  have L2 : (pre.map f ++ [f c]).length + (post.map f).length <= 100000 := by simp at tl ⊢; omega
  have b1 := b_add_ll _ _ L1; have b2 := b_add_ll _ _ L2; simp only [denE, denEs, h1, h2, h3, partF, s1, s2, b_add_ii, Option.map_some, b1, b2]; simp
theorem tx_eval {F : Nat -> List PV -> Option PV} {pe : PEnv} {TX : PV} {p : Int} {x y : List Nat} (h10 : lk pe 10 = some TX) (h23 : lk pe 23 = some (.int p)) (g1 : getF TX (.int p) = some (.str (sx x))) (g2 : getF TX (.int (p + 1)) = some (.str (sx y))) (hx : x.length <= 1000) (hy : y.length <= 1000) :
    denE F (.bin .Add (.bin .Add (.bin .Add (.cst (.str ("(" : Str))) (.sub (.var 10) (.var 23))) (.sub (.var 10) (.bin .Add (.var 23) (.cst (.int 1))))) (.cst (.str (")" : Str)))) pe = some (.str (sx ([40] ++ x ++ y ++ [41]))) := by
  have c1 := b_add_sx [40] x (by simp; omega); have c2 := b_add_sx ([40] ++ x) y (by simp; omega); have c3 := b_add_sx ([40] ++ x ++ y) [41] (by simp; omega); rw [show ("(" : Str) = sx [40] from rfl, show (")" : Str) = sx [41] from rfl]; simp only [denE, denEs, h10, h23, g1, b_add_ii, g2, c1, c2, c3]
theorem deep_eval {F : Nat -> List PV -> Option PV} {pe : PEnv} {f l s : Nat} (h24 : lk pe 24 = some (.int (f : Int))) (h25 : lk pe 25 = some (.int (l : Int))) (h15 : lk pe 15 = some (.int (s : Int))) :
    denE F (.ite (.cmp2 .LtE .Lt (.var 24) (.var 15) (.var 25)) (.cst (.int 1)) (.cst (.int 0))) pe = some (.int ((if f <= s /\ s < l then 1 else 0 : Nat) : Int)) := by
  simp only [denE, denEs, h24, h25, h15, c_le_ii, c_lt_ii]
  by_cases q1 : f <= s
  · have : decide ((f : Int) <= (s : Int)) = true := by simp; omega
    rw [this]
    by_cases q2 : s < l
    · have : decide ((s : Int) < (l : Int)) = true := by simp; omega
      rw [this]; simp [q1, q2]
    · have : decide ((s : Int) < (l : Int)) = false := by simp; omega
      rw [this]; simp [q1, q2]
  · have : decide ((f : Int) <= (s : Int)) = false := by simp; omega
    rw [this]; simp [q1]
theorem get_next {α : Type} (f : α -> PV) {pre post : List α} {a b : α} (k : Int) (hk : k = (pre.length : Int)) (h : pre.length < 900) : getF (.lst ((pre ++ a :: b :: post).map f)) (.int (k + 1)) = some (f b) := by
  have := get_at f (pre := pre ++ [a]) (post := post) (a := b) (k + 1) (by simp; omega) (by simp; omega)
  simpa using this
theorem slice_seg {α : Type} (f : α -> PV) (x : List α) (t : Tr) (h : x.length <= 1000) : sliceF (.lst (x.map f)) (some (t.f : Int)) (some (t.l : Int)) none = some (.lst ((seg x t).map f)) := by
  rw [l_mid _ _ _ (by omega) (by omega) (by simp; omega)]; simp [seg, List.map_take, List.map_drop]
theorem tup_ne (b : Bool) (t : Col) : cmpF .NotEq (.tup [mkS b, lp t]) (.tup [mkS b, lp t]) = some false := ne_same (by rfl) (fun x h => by cases h)
theorem sp0 (t : Tr) : getF (spP t) (.int 0) = some (.int (t.f : Int)) := rfl
theorem sp1 (t : Tr) : getF (spP t) (.int 1) = some (.int (t.l : Int)) := rfl
theorem body_step {nums : List Int} {bs : List Bool} {ls : List Col} {w : Int} {s : Nat} (X : Fr nums bs ls w s) (k : Cst) {ts : List Tr} (hok : ∀ t ∈ ts, Ok bs t) (hch : Chain 0 ts bs.length) (hlen : ts.length <= bs.length) (d : Nat) (x : Tmp) {i : Nat} (hi : i < bs.length)
    (hadj : adj (ts.map (mkT bs)) = true) (h1 : 1 <= ts.length) :
    ∃ (ts' : List Tr) (d' : Nat) (x' : Tmp), denSs (FT funs 5) (.cons (.asg 20 (.comp (.var 36) 36 (.rng1 (.bin .Sub (.bi .len (.cons (.var 11) .nil)) (.cst (.int 1)))) true (.cmp .Eq (.sub (.var 11) (.var 36)) (.sub (.var 11) (.bin .Add (.var 36) (.cst (.int 1))))))) (.cons (.ite (.cmp .Eq (.var 20) (.list .nil)) (.cons .brk .nil) .nil) (.cons (.asg 21 (.comp (.var 35) 35 (.val (.var 20)) true (.call 13 (.cons (.bin .Add (.bin .Add (.slc (.var 11) (.cst .none) (.var 35) (.cst .none)) (.list (.cons (.call 12 (.cons (.sub (.var 11) (.var 35)) .nil)) .nil))) (.slc (.var 11) (.bin .Add (.var 35) (.cst (.int 2))) (.cst .none) (.cst .none))) .nil)))) (.cons (.asg 22 (.ite (.cmp .NotEq (.var 21) (.list .nil)) (.var 21) (.var 20))) (.cons (.asg 23 (.sub (.var 22) (.bin .Mod (.bin .FloorDiv (.sub (.var 3) (.var 19)) (.cst (.int 16384))) (.bi .len (.cons (.var 22) .nil))))) (.cons (.asgT [24, 25] (.tup (.cons (.sub (.sub (.var 18) (.var 23)) (.cst (.int 0))) (.cons (.sub (.sub (.var 18) (.bin .Add (.var 23) (.cst (.int 1)))) (.cst (.int 1))) .nil)))) (.cons (.asg 26 (.call 16 (.cons (.sub (.var 7) (.var 23)) (.cons (.sub (.var 7) (.bin .Add (.var 23) (.cst (.int 1)))) (.cons (.var 8) (.cons (.bin .Mod (.bin .Add (.var 23) (.var 19)) (.cst (.int 2))) .nil)))))) (.cons (.asg 27 (.call 15 (.cons (.var 26) (.cons (.var 8) .nil)))) (.cons (.ite (.cmp .NotEq (.tup (.cons (.var 27) (.cons (.var 26) .nil))) (.call 17 (.cons (.slc (.var 6) (.var 24) (.var 25) (.cst .none)) (.cons (.slc (.var 4) (.var 24) (.var 25) (.cst .none)) .nil)))) (.cons (.ret (.cst (.bool false))) .nil) .nil) (.cons (.asg 7 (.bin .Add (.bin .Add (.slc (.var 7) (.cst .none) (.var 23) (.cst .none)) (.list (.cons (.var 26) .nil))) (.slc (.var 7) (.bin .Add (.var 23) (.cst (.int 2))) (.cst .none) (.cst .none)))) (.cons (.asg 11 (.bin .Add (.bin .Add (.slc (.var 11) (.cst .none) (.var 23) (.cst .none)) (.list (.cons (.var 27) .nil))) (.slc (.var 11) (.bin .Add (.var 23) (.cst (.int 2))) (.cst .none) (.cst .none)))) (.cons (.asg 18 (.bin .Add (.bin .Add (.slc (.var 18) (.cst .none) (.var 23) (.cst .none)) (.list (.cons (.tup (.cons (.var 24) (.cons (.var 25) .nil))) .nil))) (.slc (.var 18) (.bin .Add (.var 23) (.cst (.int 2))) (.cst .none) (.cst .none)))) (.cons (.asg 10 (.bin .Add (.bin .Add (.slc (.var 10) (.cst .none) (.var 23) (.cst .none)) (.list (.cons (.bin .Add (.bin .Add (.bin .Add (.cst (.str ("(" : Str))) (.sub (.var 10) (.var 23))) (.sub (.var 10) (.bin .Add (.var 23) (.cst (.int 1))))) (.cst (.str (")" : Str)))) .nil))) (.slc (.var 10) (.bin .Add (.var 23) (.cst (.int 2))) (.cst .none) (.cst .none)))) (.cons (.aug 17 .Add (.ite (.cmp2 .LtE .Lt (.var 24) (.var 15) (.var 25)) (.cst (.int 1)) (.cst (.int 0)))) .nil)))))))))))))) (env k nums bs ls w s ts d { x with x19 := some (.int (i : Int)) }) = some (env k nums bs ls w s ts' d' x', .next) /\
      (∀ t ∈ ts', Ok bs t) /\ Chain 0 ts' bs.length /\ ts'.length + 1 = ts.length /\ finN (ts'.map (mkT bs)) = finN (ts.map (mkT bs)) /\ d' + depF s ts = d + depF s ts' := by
  have hc7 := X.c7; have hml : (ts.map (mkT bs)).length <= 7 := by simp; omega
  have hm := melt_of hml; unfold meltOk at hm; rw [Bool.and_eq_true, beq_iff_eq] at hm; obtain ⟨hm1, hm2⟩ := hm; have hle : (likeI (ts.map (mkT bs))).isEmpty = false := by rw [hadj] at hm2; simpa using hm2.symm
  have hmm : (ts.map fun t => mkS (mkT bs t)) = (ts.map (mkT bs)).map mkS := by rw [List.map_map]; rfl
  have hcne : (choiceI (ts.map (mkT bs))) ≠ [] := by
    unfold choiceI; cases hg : (goodI (ts.map (mkT bs))).isEmpty
    · rw [if_neg (by simp)]; intro e; rw [e] at hg; simp at hg
    · rw [if_pos rfl]; intro e; rw [e] at hle; simp at hle
  have hclen : (choiceI (ts.map (mkT bs))).length <= 6 := by
    have hl6 : (likeI (ts.map (mkT bs))).length <= 6 := by
      unfold likeI; refine Nat.le_trans (List.length_filter_le ..) ?_; simp; omega
    unfold choiceI goodI; split
    · exact hl6
    · exact Nat.le_trans (List.length_filter_le ..) hl6
  have hsub : ∀ p ∈ choiceI (ts.map (mkT bs)), p ∈ likeI (ts.map (mkT bs)) := by
    intro p hp; unfold choiceI goodI at hp; split at hp
    · exact hp
    · exact (List.mem_filter.mp hp).1
  have hnum : ∃ v, nums[i]? = some v /\ 0 <= v := by
    have : i < nums.length := by rw [X.nl]; exact hi
    exact ⟨nums[i], by simp [this], X.n0 _ (List.getElem_mem _)⟩
  obtain ⟨v, hv, hv0⟩ := hnum; have hpos : 0 < (choiceI (ts.map (mkT bs))).length := List.length_pos_iff.mpr hcne; have hposI : (0 : Int) < ((choiceI (ts.map (mkT bs))).length : Int) := Int.ofNat_lt.mpr hpos; have hidx : ((v / 16384) % ((choiceI (ts.map (mkT bs))).length : Int)).toNat < (choiceI (ts.map (mkT bs))).length := by
    have h1 := Int.emod_nonneg (v / 16384) (b := ((choiceI (ts.map (mkT bs))).length : Int)) (by omega); have h2 := Int.emod_lt_of_pos (v / 16384) (b := ((choiceI (ts.map (mkT bs))).length : Int)) (by omega); omega
  obtain ⟨p, hp⟩ : ∃ p, (choiceI (ts.map (mkT bs)))[((v / 16384) % ((choiceI (ts.map (mkT bs))).length : Int)).toNat]? = some p := ⟨_, List.getElem?_eq_getElem hidx⟩; have hpm : p ∈ choiceI (ts.map (mkT bs)) := List.mem_of_getElem? hp; obtain ⟨hp1, hp2⟩ := likeI_lt (hsub p hpm); have hfin := eq_of_beq (List.all_eq_true.mp hm1 p hpm); obtain ⟨pre, a, b, post, hts, hpl⟩ := split_at (ts := ts) (p := p) (by simpa using hp1); have hpre : pre.length < 900 := by rw [hpl]; simp at hp1; omega
  have ha : Ok bs a := hok a (by rw [hts]; simp); have hb : Ok bs b := hok b (by rw [hts]; simp); obtain ⟨hab, hch'⟩ := chain_at (ts := ts) (bs := bs) (by rw [<- hts]; exact hch); have hmab : mkT bs a = mkT bs b := by
    rw [hts] at hp2; rw [<- hpl] at hp2; have e1 := getD_at (pre := pre.map (mkT bs)) (post := (b :: post).map (mkT bs)) (a := mkT bs a) (d := false); have e2 := getD_at (pre := (pre ++ [a]).map (mkT bs)) (post := post.map (mkT bs)) (a := mkT bs b) (d := false); simp only [List.length_map, List.map_append, List.map_cons, List.map_nil, List.length_append, List.length_cons, List.length_nil, List.append_assoc, List.cons_append, List.nil_append] at e1 e2 hp2; rw [e1] at hp2; rw [show pre.length + (0 + 1) = pre.length + 1 by omega] at e2; rw [e2] at hp2; exact hp2
  have hpts := mk_pts ha hb hmab; have hnode : Ok bs (.node a b) := .node ha hb hab hpts; obtain ⟨mk1, mk2⟩ := mk_node ha hb hab hpts; have hla := ha.lt; have hlb := hb.lt; have hA := pc_bd X ha; have hB := pc_bd X hb; have hN := pc_bd X hnode; have hw0 := X.w0; have hw1 := X.w1; have hmelt : opp (norm (addC (pc ls bs a) (pc ls bs b))) = pc ls bs (.node a b) := by
    unfold pc; rw [seg_node X.ll ha hb hab, seg_node rfl ha hb hab]; exact melt_parts ha.pts hpts
  have e16 : ∀ way : Int, way = 0 \/ way = 1 -> FT funs 5 16 [lp (pc ls bs a), lp (pc ls bs b), .int w, .int way] = some (lp (pc ls bs (.node a b))) := by
    intro way hway; rw [<- hmelt]; obtain ⟨a1, a2, a3, a4, a5, a6⟩ := hA; obtain ⟨b1, b2, b3, b4, b5, b6⟩ := hB; have q1 := minL3 ((pc ls bs a).1 + (pc ls bs b).1) ((pc ls bs a).2.1 + (pc ls bs b).2.1) ((pc ls bs a).2.2 + (pc ls bs b).2.2); have q2 := maxL3 ((pc ls bs a).1 + (pc ls bs b).1) ((pc ls bs a).2.1 + (pc ls bs b).2.1) ((pc ls bs a).2.2 + (pc ls bs b).2.2); exact melted_den (n := 2) (a := (pc ls bs a).1) (b := (pc ls bs a).2.1) (c := (pc ls bs a).2.2) (a' := (pc ls bs b).1) (b' := (pc ls bs b).2.1) (c' := (pc ls bs b).2.2) hw0 hway (by omega)
  have hsegne : seg ls (.node a b) ≠ [] := fun e => by
    have := seg_len X.ll hnode; rw [e] at this; have := hnode.lt; simp at *; omega
  have hsegm : ∀ u ∈ seg ls (.node a b), Lt 1024 u := fun u hu => X.lt u (List.mem_of_mem_take (List.mem_of_mem_drop hu)); have e15 : FT funs 5 15 [lp (pc ls bs (.node a b)), .int w] = some (mkS (mkT bs (.node a b))) := by
    obtain ⟨a1, a2, a3, a4, a5, a6⟩ := hN; have := mark_den (n := 3) (w := w) (a := (pc ls bs (.node a b)).1) (b := (pc ls bs (.node a b)).2.1) (c := (pc ls bs (.node a b)).2.2) ⟨by omega, by omega⟩ ⟨by omega, by omega⟩ ⟨by omega, by omega⟩; have pm : isPlain (pc ls bs (.node a b)).1 (pc ls bs (.node a b)).2.1 (pc ls bs (.node a b)).2.2 = decide (Mine.pts (seg bs (.node a b)) % 3 = 1) := parts_mark hsegm hsegne; rw [pm] at this; exact this
  have hsm : (seg ls (.node a b)).all small = true := by
    rw [List.all_eq_true]; intro u hu; obtain ⟨a0, b0, c0, a1, b1, c1, -⟩ := hsegm u hu; unfold small smallS; simp; omega
  have e17 : FT funs 5 17 [.lst ((seg ls (.node a b)).map lp), .lst ((seg bs (.node a b)).map mkS)] = some (.tup [mkS (mkT bs (.node a b)), lp (pc ls bs (.node a b))]) := by
    have hl1 := seg_len X.ll hnode; have hl2 := seg_len (x := bs) rfl hnode; have := hnode.lt; exact due_den (n := 4) hsm (by omega) (by omega)
  refine ⟨pre ++ .node a b :: post, d + (if a.f <= s /\ s < b.l then 1 else 0), ⟨some (.int (i : Int)), some (nats (likeI (ts.map (mkT bs)))), some (nats (goodI (ts.map (mkT bs)))), some (nats (choiceI (ts.map (mkT bs)))), some (.int (p : Int)), some (.int (a.f : Int)), some (.int (b.l : Int)), some (lp (pc ls bs (.node a b))), some (mkS (mkT bs (.node a b)))⟩, ?_, ?_, hch', ?_, ?_, ?_⟩
  · unfold env; simp only; rw [hmm]; refine seq (asg (p := nats (likeI (ts.map (mkT bs)))) (like_eval rfl (fun v => ⟨rfl, rfl⟩) (by simp; omega) (by simp; omega))) ?_; simp only [st]; refine seq (ite_f (by simp only [denE, denEs, denI, lk, st, EVL, nats, eq_nil, List.isEmpty_map, hle]) seq_nil) ?_; refine seq (asg (p := nats (goodI (ts.map (mkT bs)))) (good_eval (n := 3) rfl rfl (fun v => ⟨rfl, rfl⟩) hml)) ?_; simp only [st]; refine seq (asg (p := nats (choiceI (ts.map (mkT bs)))) ?_) ?_
    · simp only [denE, denEs, denI, lk, st, EVL, nats, ne_nil, List.isEmpty_map]; unfold choiceI; cases (goodI (ts.map (mkT bs))).isEmpty <;> rfl
    simp only [st]; refine seq (asg (p := .int (p : Int)) ?_) ?_
    · have g1 := get_intL (l := nums) (k := (i : Int)) (v := v) (by omega) (by omega) (by rw [Int.toNat_natCast]; exact hv); have g2 := len_nats (choiceI (ts.map (mkT bs))) (by omega); have q1 := Int.emod_nonneg (v / 16384) (b := ((choiceI (ts.map (mkT bs))).length : Int)) (by omega); have q2 := Int.emod_lt_of_pos (v / 16384) hposI; have g3 := get_nats (l := choiceI (ts.map (mkT bs))) (p := p) q1 (by omega) hp; exact pick_eval rfl rfl rfl g1 g2 hposI g3
    simp only [st]; rw [<- hmm]; rw [hts]; have hpp : (p : Int) = (pre.length : Int) := by omega
    have tl : (pre ++ a :: b :: post).length <= 1000 := by rw [<- hts]; omega
    have hll := X.ll; have t1 := ha.len; have t2 := hb.len; refine seq (asgT (span_eval rfl rfl (get_at spP _ hpp (by omega)) (get_next spP _ hpp hpre) (sp0 a) (sp1 b)) rfl) ?_; simp only [st]; refine seq (asg (part_eval rfl rfl rfl rfl (get_at (fun t => lp (pc ls bs t)) _ hpp (by omega)) (get_next (fun t => lp (pc ls bs t)) _ hpp hpre) (e16 _ (by omega)))) ?_; simp only [st]; refine seq (asg (mark_eval rfl rfl e15)) ?_; simp only [st]; refine seq (ite_f (due_eval rfl rfl rfl rfl rfl rfl (slice_seg lp ls (.node a b) (by omega)) (slice_seg mkS bs (.node a b) (by omega)) e17 (tup_ne _ _)) seq_nil) ?_; refine seq (asg (upd_eval (fun t => lp (pc ls bs t)) (c := .node a b) hpp tl rfl rfl rfl)) ?_; simp only [st]; refine seq (asg (upd_eval (fun t => mkS (mkT bs t)) (c := .node a b) hpp tl rfl rfl rfl)) ?_; simp only [st]; refine seq (asg (upd_eval spP (c := .node a b) hpp tl rfl rfl rfl)) ?_; simp only [st]; refine seq (asg (upd_eval txP (c := .node a b) hpp tl rfl rfl ?_)) ?_
    · rw [tx_eval (x := flatP a.pcs) (y := flatP b.pcs) rfl rfl (get_at txP _ hpp (by omega)) (get_next txP _ hpp hpre) (by omega) (by omega)]; simp [txP, Tr.pcs, flatP, flatP_app]
    simp only [st]; refine (seq_last (aug (x := .int (d : Int)) rfl (deep_eval rfl rfl rfl) rfl)).trans ?_; simp only [st]; rw [Int.natCast_add]
  · intro t ht; rcases List.mem_append.mp ht with ht | ht
    · exact hok t (by rw [hts]; simp [ht])
    · rcases List.mem_cons.mp ht with rfl | ht
      · exact hnode
      · exact hok t (by rw [hts]; simp [ht])
  · rw [hts]; simp; omega
  · rw [hts, melt_map (mkT bs) (a := a) (b := b) (by rw [mk1]; simp), hpl, <- hts]; exact hfin
  · rw [hts]; unfold depF; simp only [List.map_append, List.map_cons, List.sum_append, List.sum_cons, Tr.dep]; split <;> omega
end L2
end Mine
end
section
open PySem PySem.W PyProof.Rows
namespace Mine
namespace L2
theorem body_brk {nums : List Int} {bs : List Bool} {ls : List Col} {w : Int} {s : Nat} (X : Fr nums bs ls w s) (k : Cst) {ts : List Tr} (hlen : ts.length <= bs.length) (d : Nat) (x : Tmp) {i : Nat}
    (hadj : adj (ts.map (mkT bs)) = false) (h1 : 1 <= ts.length) :
    ∃ x' : Tmp, denSs (FT funs 5) (.cons (.asg 20 (.comp (.var 36) 36 (.rng1 (.bin .Sub (.bi .len (.cons (.var 11) .nil)) (.cst (.int 1)))) true (.cmp .Eq (.sub (.var 11) (.var 36)) (.sub (.var 11) (.bin .Add (.var 36) (.cst (.int 1))))))) (.cons (.ite (.cmp .Eq (.var 20) (.list .nil)) (.cons .brk .nil) .nil) (.cons (.asg 21 (.comp (.var 35) 35 (.val (.var 20)) true (.call 13 (.cons (.bin .Add (.bin .Add (.slc (.var 11) (.cst .none) (.var 35) (.cst .none)) (.list (.cons (.call 12 (.cons (.sub (.var 11) (.var 35)) .nil)) .nil))) (.slc (.var 11) (.bin .Add (.var 35) (.cst (.int 2))) (.cst .none) (.cst .none))) .nil)))) (.cons (.asg 22 (.ite (.cmp .NotEq (.var 21) (.list .nil)) (.var 21) (.var 20))) (.cons (.asg 23 (.sub (.var 22) (.bin .Mod (.bin .FloorDiv (.sub (.var 3) (.var 19)) (.cst (.int 16384))) (.bi .len (.cons (.var 22) .nil))))) (.cons (.asgT [24, 25] (.tup (.cons (.sub (.sub (.var 18) (.var 23)) (.cst (.int 0))) (.cons (.sub (.sub (.var 18) (.bin .Add (.var 23) (.cst (.int 1)))) (.cst (.int 1))) .nil)))) (.cons (.asg 26 (.call 16 (.cons (.sub (.var 7) (.var 23)) (.cons (.sub (.var 7) (.bin .Add (.var 23) (.cst (.int 1)))) (.cons (.var 8) (.cons (.bin .Mod (.bin .Add (.var 23) (.var 19)) (.cst (.int 2))) .nil)))))) (.cons (.asg 27 (.call 15 (.cons (.var 26) (.cons (.var 8) .nil)))) (.cons (.ite (.cmp .NotEq (.tup (.cons (.var 27) (.cons (.var 26) .nil))) (.call 17 (.cons (.slc (.var 6) (.var 24) (.var 25) (.cst .none)) (.cons (.slc (.var 4) (.var 24) (.var 25) (.cst .none)) .nil)))) (.cons (.ret (.cst (.bool false))) .nil) .nil) (.cons (.asg 7 (.bin .Add (.bin .Add (.slc (.var 7) (.cst .none) (.var 23) (.cst .none)) (.list (.cons (.var 26) .nil))) (.slc (.var 7) (.bin .Add (.var 23) (.cst (.int 2))) (.cst .none) (.cst .none)))) (.cons (.asg 11 (.bin .Add (.bin .Add (.slc (.var 11) (.cst .none) (.var 23) (.cst .none)) (.list (.cons (.var 27) .nil))) (.slc (.var 11) (.bin .Add (.var 23) (.cst (.int 2))) (.cst .none) (.cst .none)))) (.cons (.asg 18 (.bin .Add (.bin .Add (.slc (.var 18) (.cst .none) (.var 23) (.cst .none)) (.list (.cons (.tup (.cons (.var 24) (.cons (.var 25) .nil))) .nil))) (.slc (.var 18) (.bin .Add (.var 23) (.cst (.int 2))) (.cst .none) (.cst .none)))) (.cons (.asg 10 (.bin .Add (.bin .Add (.slc (.var 10) (.cst .none) (.var 23) (.cst .none)) (.list (.cons (.bin .Add (.bin .Add (.bin .Add (.cst (.str ("(" : Str))) (.sub (.var 10) (.var 23))) (.sub (.var 10) (.bin .Add (.var 23) (.cst (.int 1))))) (.cst (.str (")" : Str)))) .nil))) (.slc (.var 10) (.bin .Add (.var 23) (.cst (.int 2))) (.cst .none) (.cst .none)))) (.cons (.aug 17 .Add (.ite (.cmp2 .LtE .Lt (.var 24) (.var 15) (.var 25)) (.cst (.int 1)) (.cst (.int 0)))) .nil)))))))))))))) (env k nums bs ls w s ts d { x with x19 := some (.int (i : Int)) }) = some (env k nums bs ls w s ts d x', .brk) := by
  have hc7 := X.c7; have hml : (ts.map (mkT bs)).length <= 7 := by simp; omega
  have hm := melt_of hml; unfold meltOk at hm; rw [Bool.and_eq_true, beq_iff_eq] at hm; obtain ⟨-, hm2⟩ := hm; have hle : (likeI (ts.map (mkT bs))).isEmpty = true := by rw [hadj] at hm2; simpa using hm2.symm
  have hmm : (ts.map fun t => mkS (mkT bs t)) = (ts.map (mkT bs)).map mkS := by rw [List.map_map]; rfl
  refine ⟨⟨some (.int (i : Int)), some (nats (likeI (ts.map (mkT bs)))), x.x21, x.x22, x.x23, x.x24, x.x25, x.x26, x.x27⟩, ?_⟩; unfold env; simp only; rw [hmm]; refine seq (asg (p := nats (likeI (ts.map (mkT bs)))) (like_eval rfl (fun v => ⟨rfl, rfl⟩) (by simp; omega) (by simp; omega))) ?_; simp only [st]; refine seq_out (ite_t (by simp only [denE, denEs, denI, lk, st, EVL, nats, eq_nil, List.isEmpty_map, hle]) ?_) (by simp); simp only [denSs, denS]
theorem melt_loop {nums : List Int} {bs : List Bool} {ls : List Col} {w : Int} {s : Nat} (X : Fr nums bs ls w s) (k : Cst) : ∀ (is : List Nat) (ts : List Tr) (d : Nat) (x : Tmp), (∀ i ∈ is, i < bs.length) -> (∀ t ∈ ts, Ok bs t) -> Chain 0 ts bs.length -> ts.length <= bs.length -> 1 <= ts.length -> ts.length <= is.length + 1 ->
    ∃ (ts' : List Tr) (d' : Nat) (x' : Tmp), forF (denSs (FT funs 5) (.cons (.asg 20 (.comp (.var 36) 36 (.rng1 (.bin .Sub (.bi .len (.cons (.var 11) .nil)) (.cst (.int 1)))) true (.cmp .Eq (.sub (.var 11) (.var 36)) (.sub (.var 11) (.bin .Add (.var 36) (.cst (.int 1))))))) (.cons (.ite (.cmp .Eq (.var 20) (.list .nil)) (.cons .brk .nil) .nil) (.cons (.asg 21 (.comp (.var 35) 35 (.val (.var 20)) true (.call 13 (.cons (.bin .Add (.bin .Add (.slc (.var 11) (.cst .none) (.var 35) (.cst .none)) (.list (.cons (.call 12 (.cons (.sub (.var 11) (.var 35)) .nil)) .nil))) (.slc (.var 11) (.bin .Add (.var 35) (.cst (.int 2))) (.cst .none) (.cst .none))) .nil)))) (.cons (.asg 22 (.ite (.cmp .NotEq (.var 21) (.list .nil)) (.var 21) (.var 20))) (.cons (.asg 23 (.sub (.var 22) (.bin .Mod (.bin .FloorDiv (.sub (.var 3) (.var 19)) (.cst (.int 16384))) (.bi .len (.cons (.var 22) .nil))))) (.cons (.asgT [24, 25] (.tup (.cons (.sub (.sub (.var 18) (.var 23)) (.cst (.int 0))) (.cons (.sub (.sub (.var 18) (.bin .Add (.var 23) (.cst (.int 1)))) (.cst (.int 1))) .nil)))) (.cons (.asg 26 (.call 16 (.cons (.sub (.var 7) (.var 23)) (.cons (.sub (.var 7) (.bin .Add (.var 23) (.cst (.int 1)))) (.cons (.var 8) (.cons (.bin .Mod (.bin .Add (.var 23) (.var 19)) (.cst (.int 2))) .nil)))))) (.cons (.asg 27 (.call 15 (.cons (.var 26) (.cons (.var 8) .nil)))) (.cons (.ite (.cmp .NotEq (.tup (.cons (.var 27) (.cons (.var 26) .nil))) (.call 17 (.cons (.slc (.var 6) (.var 24) (.var 25) (.cst .none)) (.cons (.slc (.var 4) (.var 24) (.var 25) (.cst .none)) .nil)))) (.cons (.ret (.cst (.bool false))) .nil) .nil) (.cons (.asg 7 (.bin .Add (.bin .Add (.slc (.var 7) (.cst .none) (.var 23) (.cst .none)) (.list (.cons (.var 26) .nil))) (.slc (.var 7) (.bin .Add (.var 23) (.cst (.int 2))) (.cst .none) (.cst .none)))) (.cons (.asg 11 (.bin .Add (.bin .Add (.slc (.var 11) (.cst .none) (.var 23) (.cst .none)) (.list (.cons (.var 27) .nil))) (.slc (.var 11) (.bin .Add (.var 23) (.cst (.int 2))) (.cst .none) (.cst .none)))) (.cons (.asg 18 (.bin .Add (.bin .Add (.slc (.var 18) (.cst .none) (.var 23) (.cst .none)) (.list (.cons (.tup (.cons (.var 24) (.cons (.var 25) .nil))) .nil))) (.slc (.var 18) (.bin .Add (.var 23) (.cst (.int 2))) (.cst .none) (.cst .none)))) (.cons (.asg 10 (.bin .Add (.bin .Add (.slc (.var 10) (.cst .none) (.var 23) (.cst .none)) (.list (.cons (.bin .Add (.bin .Add (.bin .Add (.cst (.str ("(" : Str))) (.sub (.var 10) (.var 23))) (.sub (.var 10) (.bin .Add (.var 23) (.cst (.int 1))))) (.cst (.str (")" : Str)))) .nil))) (.slc (.var 10) (.bin .Add (.var 23) (.cst (.int 2))) (.cst .none) (.cst .none)))) (.cons (.aug 17 .Add (.ite (.cmp2 .LtE .Lt (.var 24) (.var 15) (.var 25)) (.cst (.int 1)) (.cst (.int 0)))) .nil))))))))))))))) [19] (is.map fun i : Nat => PV.int (i : Int)) (env k nums bs ls w s ts d x) = some (env k nums bs ls w s ts' d' x', .next) /\
      (∀ t ∈ ts', Ok bs t) /\ Chain 0 ts' bs.length /\ ts'.length <= bs.length /\ 1 <= ts'.length /\ adj (ts'.map (mkT bs)) = false /\ finN (ts'.map (mkT bs)) = finN (ts.map (mkT bs)) /\ d' + depF s ts = d + depF s ts'
  | [], ts, d, x, _, hok, hch, hle, h1, h2 => by
    refine ⟨ts, d, x, rfl, hok, hch, hle, h1, ?_, rfl, rfl⟩; have : ts.length = 1 := by simp at h2; omega
    obtain ⟨t, rfl⟩ := List.length_eq_one_iff.mp this; rfl
  | i :: is, ts, d, x, hi, hok, hch, hle, h1, h2 => by
    cases hadj : adj (ts.map (mkT bs))
    · obtain ⟨x', hb⟩ := body_brk X k hle d x (i := i) hadj h1; exact ⟨ts, d, x', for_brk rfl hb, hok, hch, hle, h1, hadj, rfl, rfl⟩
    · obtain ⟨ts1, d1, x1, hb, hok1, hch1, hl1, hf1, hd1⟩ := body_step X k hok hch hle d x (i := i) (hi i (by simp)) hadj h1; have h3 : 1 <= ts1.length := by
        have hq := melt_of (ms := ts.map (mkT bs)) (by have := X.c7; simp; omega); have : 2 <= ts.length := by
          rcases Nat.lt_or_ge ts.length 2 with h | h
          · have : ts.length = 1 := by omega
            obtain ⟨t, rfl⟩ := List.length_eq_one_iff.mp this; simp [adj] at hadj
          · exact h
        omega
      obtain ⟨ts', d', x', hf, q1, q2, q3, q4, q5, q6, q7⟩ := melt_loop X k is ts1 d1 x1 (fun j hj => hi j (by simp [hj])) hok1 hch1 (by omega) h3 (by simp at h2; omega); exact ⟨ts', d', x', for_next rfl hb hf, q1, q2, q3, q4, q5, by rw [q6, hf1], by omega⟩
def spellOk (bs : List Bool) : Bool := match toks 999 (chars bs), FT funs 5 11 [.lst (bs.map mkS)] with
  | some r, some (.lst l) => intsOf l == some r
  | _, _ => false
theorem spell_5 : (allB 5).all spellOk = true := by decide +kernel
theorem spell_7 : (allB 7).all spellOk = true := by decide +kernel
def pointOk (m : Nat) : Bool := toks 999 (List.replicate m 46) == some (List.replicate (m / 3) 52 ++ List.replicate (m % 3) 23)
theorem point_all : (List.range 15).all pointOk = true := by decide +kernel
end L2
end Mine
end
section
open PySem PySem.W PyProof.Rows
namespace Mine
theorem range_getD {β : Type} (f : Int -> β) : ∀ (l : List Int), (List.range l.length).map (fun k => f (l.getD k 0)) = l.map f
  | [] => rfl
  | a :: l => by
    rw [List.length_cons, List.range_succ_eq_map, List.map_cons, List.map_map, List.map_cons]; congr 1; exact range_getD f l
theorem comp_rng {F : Nat -> List PV -> Option PV} {pe : PEnv} {e a c : PE} {tg : Nat} {m : Nat} (g : Nat -> PV) (ha : denE F a pe = some (.int (m : Int))) (hm : m <= 1000) (h : ∀ k < m, denE F e (st pe tg (.int (k : Int))) = some (g k)) :
    denE F (.comp e tg (.rng1 a) false c) pe = some (.lst ((List.range m).map g)) := by
  rw [comp_map (items := rng m) (fun p => match p with | .int k => g k.toNat | _ => .none) (di_rng ha (by omega)) ?_]
  · congr 2; unfold rng; rw [List.map_map]; refine List.map_congr_left fun k _ => ?_; simp
  · intro p hp; obtain ⟨k, hk, rfl⟩ := List.mem_map.mp hp; simp only [Int.toNat_natCast]; exact h k (List.mem_range.mp hk)
theorem comp_ints {F : Nat -> List PV -> Option PV} {pe : PEnv} {e a c : PE} {tg : Nat} {l : List Int} (g : Int -> PV) (ha : denE F a pe = some (intL l)) (hm : l.length <= 1000) (h : ∀ x ∈ l, denE F e (st pe tg (.int x)) = some (g x)) :
    denE F (.comp e tg (.val a) false c) pe = some (.lst (l.map g)) := by
  rw [comp_map (items := l.map .int) (fun p => match p with | .int k => g k | _ => .none) (di_lst ha (by simp; omega)) ?_]
  · rw [List.map_map]; rfl
  · intro p hp; obtain ⟨k, hk, rfl⟩ := List.mem_map.mp hp; exact h k hk
theorem getD_int {l : List Int} {k : Nat} (h : k < l.length) : getF (intL l) (.int (k : Int)) = if k < 1000000 then some (.int (l.getD k 0)) else getF (intL l) (.int (k : Int)) := by
  by_cases hk : k < 1000000
  · rw [if_pos hk]; exact get_intL' h hk
  · rw [if_neg hk]
where get_intL' {l : List Int} {k : Nat} (h : k < l.length) (hk : k < 1000000) : getF (intL l) (.int (k : Int)) = some (.int (l.getD k 0)) :=
    getF_l (by omega) (by omega) (by rw [Int.toNat_natCast, List.getElem?_map, List.getElem?_eq_getElem h]; simp [List.getD, h])
theorem get_int {l : List Int} {k : Nat} (h : k < l.length) (hk : k < 1000000) : getF (intL l) (.int (k : Int)) = some (.int (l.getD k 0)) := by
  rw [getD_int h, if_pos hk]
theorem slice_step {l : List Int} (hl : l.length <= 100) (k c : Nat) (hc : 0 < c) (hc7 : c <= 10) : ∃ l' : List Int, sliceF (intL l) (some (k : Int)) none (some (c : Int)) = some (intL l') /\ l'.length <= 200 /\ ∀ x ∈ l', x ∈ l := by
  refine ⟨(sliceIx (some (k : Int)) none (some (c : Int)) (l.map PV.int).length).filterMap (l[·]?), ?_, ?_, ?_⟩
  · show (if _ then _ else _) = _; rw [if_pos ⟨by simp; omega, by simp; omega⟩]; congr 2; have : ∀ ix : List Nat, ix.filterMap ((l.map PV.int)[·]?) = (ix.filterMap (l[·]?)).map PV.int := by
      intro ix
      induction ix with
      | nil => rfl
      | cons a r ih =>
        rw [List.filterMap_cons, List.filterMap_cons, List.getElem?_map]; cases l[a]? with
        | none => exact ih
        | some x =>
          simp only [Option.map_some, List.map_cons]; rw [ih]
    exact this _
  · refine Nat.le_trans (List.length_filterMap_le ..) ?_; unfold sliceIx sliceRange sliceBounds; simp only [Option.getD_some, List.length_map]; have hcp : ((c : Int) > 0) := by omega
    simp only [hcp, if_true]; rw [List.length_range, if_neg (show ¬ (k : Int) < 0 by omega)]; have hA0 : 0 <= max 0 (min (k : Int) (l.length : Int)) := by omega
    generalize max 0 (min (k : Int) (l.length : Int)) = A at *; split
    · rename_i h; have h2 : ((l.length : Int) - A + (c : Int) - 1) / (c : Int) <= (l.length : Int) - A + (c : Int) - 1 := Int.ediv_le_self _ (by omega); omega
    · simp
  · intro x hx; obtain ⟨i, hi, he⟩ := List.mem_filterMap.mp hx; exact List.mem_of_getElem? he
namespace L2
theorem numbers_eval {F : Nat -> List PV -> Option PV} {pe : PEnv} {l : List Int} {c : Nat} {pl : List Int} (hc : c = 5 \/ c = 7) (hl : l.length <= 63) (hpl : pl.length = 7) (hp0 : ∀ x ∈ pl, 0 <= x) (h0 : lk pe 0 = some (intL l)) (h1 : lk pe 1 = some (.int (c : Int))) (h2 : lk pe 2 = some (.tup (pl.map .int)))
    (hs : ∀ v, lk (st pe 46 v) 46 = some v /\ lk (st pe 46 v) 0 = lk pe 0 /\ lk (st pe 46 v) 1 = lk pe 1 /\ lk (st pe 46 v) 2 = lk pe 2 /\ ∀ u, lk (st (st pe 46 v) 47 u) 47 = some u) :
    ∃ nums : List Int, denE F (.comp (.bin .Add (.sub (.var 2) (.var 46)) (.bi .sum (.cons (.comp (.bin .Mod (.var 47) (.bin .Pow (.cst (.int 10)) (.cst (.int 6)))) 47 (.val (.slc (.var 0) (.var 46) (.cst .none) (.var 1))) false (.cst .none)) .nil))) 46 (.rng1 (.var 1)) false (.cst .none)) pe = some (intL nums) /\ nums.length = c /\ ∀ x ∈ nums, 0 <= x := by
  have item : ∀ k < c, ∃ x : Int, 0 <= x /\ denE F (.bin .Add (.sub (.var 2) (.var 46)) (.bi .sum (.cons (.comp (.bin .Mod (.var 47) (.bin .Pow (.cst (.int 10)) (.cst (.int 6)))) 47 (.val (.slc (.var 0) (.var 46) (.cst .none) (.var 1))) false (.cst .none)) .nil))) (st pe 46 (.int (k : Int))) = some (.int x) := by
    intro k hk; obtain ⟨q1, q2, q3, q4, q5⟩ := hs (.int (k : Int)); obtain ⟨l', hl1, hl2, hl3⟩ := slice_step (l := l) (by omega) k c (by omega) (by omega); have hsl : denE F (.slc (.var 0) (.var 46) (.cst .none) (.var 1)) (st pe 46 (.int (k : Int))) = some (intL l') := by
      simp only [denE, q1, q2, q3, h0, h1, partF, hl1]
    have hcomp : denE F (.comp (.bin .Mod (.var 47) (.bin .Pow (.cst (.int 10)) (.cst (.int 6)))) 47 (.val (.slc (.var 0) (.var 46) (.cst .none) (.var 1))) false (.cst .none)) (st pe 46 (.int (k : Int))) = some (intL (l'.map (· % 1000000))) := by
      have := comp_ints (F := F) (pe := st pe 46 (.int (k : Int))) (e := .bin .Mod (.var 47) (.bin .Pow (.cst (.int 10)) (.cst (.int 6)))) (a := .slc (.var 0) (.var 46) (.cst .none) (.var 1)) (c := .cst .none) (tg := 47) (l := l') (fun x => .int (x % 1000000)) hsl (by omega) (by
        intro x hx; have p6 : binF .Pow (.int 10) (.int 6) = some (.int 1000000) := by rw [b_pow_ii _ _ (by decide)]; rfl
        have m6 := b_mod_ii x 1000000 (by decide); simp only [denE, q5, p6, m6])
      rw [this, intL, List.map_map]; rfl
    have hsum : biF .sum [intL (l'.map (· % 1000000))] = some (.int (l'.map (· % 1000000)).sum) := by
      refine bi_sum _ ?_ (by simp; omega); rw [List.all_map, List.all_eq_true]; intro x _; unfold smallS; simp; omega
    have hnn : ∀ r : List Int, (∀ x ∈ r, 0 <= x) -> 0 <= r.sum := by
      intro r
      induction r with
      | nil => simp
      | cons a r ih =>
        intro h; have := ih fun x hx => h x (by simp [hx]); have := h a (by simp); simp only [List.sum_cons]; omega
    have hs0 := hnn (l'.map (· % 1000000)) (by
      intro x hx; obtain ⟨y, _, rfl⟩ := List.mem_map.mp hx; omega)
    have hk7 : k < pl.length := by omega
    have hg : getF (.tup (pl.map .int)) (.int (k : Int)) = some (.int pl[k]) := getF_t (by omega) (by omega) (by rw [Int.toNat_natCast, List.getElem?_map, List.getElem?_eq_getElem hk7]; rfl); have hp := hp0 pl[k] (List.getElem_mem _); refine ⟨pl[k] + (l'.map (· % 1000000)).sum, by omega, ?_⟩; simp only [denE, denEs] at hcomp ⊢; simp only [q1, q4, h2, hg, hcomp, hsum, b_add_ii]
  have : ∃ g : Nat -> Int, ∀ k < c, 0 <= g k /\ denE F (.bin .Add (.sub (.var 2) (.var 46)) (.bi .sum (.cons (.comp (.bin .Mod (.var 47) (.bin .Pow (.cst (.int 10)) (.cst (.int 6)))) 47 (.val (.slc (.var 0) (.var 46) (.cst .none) (.var 1))) false (.cst .none)) .nil))) (st pe 46 (.int (k : Int))) = some (.int (g k)) := by
    refine ⟨fun k => if h : k < c then Classical.choose (item k h) else 0, fun k hk => ?_⟩; simp only [hk, ↓reduceDIte]; exact Classical.choose_spec (item k hk)
  obtain ⟨g, hg⟩ := this; refine ⟨(List.range c).map g, ?_, by simp, ?_⟩
  · have := comp_rng (F := F) (pe := pe) (e := (.bin .Add (.sub (.var 2) (.var 46)) (.bi .sum (.cons (.comp (.bin .Mod (.var 47) (.bin .Pow (.cst (.int 10)) (.cst (.int 6)))) 47 (.val (.slc (.var 0) (.var 46) (.cst .none) (.var 1))) false (.cst .none)) .nil)))) (a := .var 1) (c := .cst .none) (tg := 46) (m := c) (fun k => .int (g k)) (by simp only [denE, h1]) (by omega) (fun k hk => (hg k hk).2); rw [this, intL, List.map_map]; rfl
  · intro x hx; obtain ⟨k, hk, rfl⟩ := List.mem_map.mp hx; exact (hg k (List.mem_range.mp hk)).1
end L2
end Mine
end
section
open PySem PySem.W PyProof.Rows
namespace Mine
namespace L2
def bit (x : Int) : Bool := decide (x % 2 = 1)
def lightOf (x : Int) : Col := lightC (x / 2 % 256) (share x)
def colOf (x : Int) : Col := lightC (x / 2 % 256 + 256 * (x % 2)) (share x)
section
variable {F : Nat -> List PV -> Option PV} {pe : PEnv} {nums : List Int} {c : Nat}
theorem drawn_eval (h3 : lk pe 3 = some (intL nums)) (hl : nums.length <= 10) (hs : ∀ v, lk (st pe 45 v) 45 = some v) : denE F (.comp (.sub (.cst (.str ("<>" : Str))) (.bin .Mod (.var 45) (.cst (.int 2)))) 45 (.val (.var 3)) false (.cst .none)) pe = some (.lst ((nums.map bit).map mkS)) := by
  rw [comp_ints (l := nums) (fun x => mkS (bit x)) (by simp only [denE, h3]) (by omega) ?_, List.map_map]
  · rfl
  · intro x _; have m := b_mod_ii x 2 (by decide); simp only [denE, hs, m]; have : x % 2 = 0 \/ x % 2 = 1 := by omega
    rcases this with h | h
    · rw [h]; unfold bit; rw [h]; rfl
    · rw [h]; unfold bit; rw [h]; rfl
theorem shares_eval (h3 : lk pe 3 = some (intL nums)) (hl : nums.length <= 10) (hs : ∀ v, lk (st pe 44 v) 44 = some v) : denE F (.comp (.bin .Add (.cst (.int 1)) (.bin .Mod (.bin .FloorDiv (.var 44) (.cst (.int 512))) (.cst (.int 4)))) 44 (.val (.var 3)) false (.cst .none)) pe = some (intL (nums.map share)) := by
  rw [comp_ints (l := nums) (fun x => .int (share x)) (by simp only [denE, h3]) (by omega) ?_, intL, List.map_map]
  · rfl
  · intro x _; have d := b_fdiv_ii x 512 ⟨by decide, by decide⟩; have m := b_mod_ii (x / 512) 4 (by decide); simp only [denE, hs, d, m, b_add_ii]; rfl
end
variable {n : Nat} {pe : PEnv} {nums : List Int} {c : Nat}
theorem share_small (x : Int) : smallI (share x) = true := by
  have := share_cases x; unfold smallI; simp; omega
theorem get_share {k : Nat} (h : k < nums.length) (h2 : nums.length <= 10) : getF (intL (nums.map share)) (.int (k : Int)) = some (.int (share (nums.getD k 0))) := by
  rw [get_int (by simp; omega) (by omega)]; simp [List.getD, h]
theorem lights_eval (h1 : lk pe 1 = some (.int (nums.length : Int))) (h3 : lk pe 3 = some (intL nums)) (h5 : lk pe 5 = some (intL (nums.map share))) (hl : nums.length <= 10)
    (hs : ∀ v, lk (st pe 43 v) 43 = some v /\ lk (st pe 43 v) 3 = lk pe 3 /\ lk (st pe 43 v) 5 = lk pe 5) : denE (FT funs (n + 1)) (.comp (.call 14 (.cons (.bin .Mod (.bin .FloorDiv (.sub (.var 3) (.var 43)) (.cst (.int 2))) (.cst (.int 256))) (.cons (.sub (.var 5) (.var 43)) .nil))) 43 (.rng1 (.var 1)) false (.cst .none)) pe = some (.lst ((nums.map lightOf).map lp)) := by
  rw [comp_rng (m := nums.length) (fun k => lp (lightOf (nums.getD k 0))) (by simp only [denE, h1]) (by omega) ?_, range_getD (fun x => lp (lightOf x)), List.map_map]
  · rfl
  · intro k hk; obtain ⟨q1, q2, q3⟩ := hs (.int (k : Int)); have g1 := get_int (l := nums) hk (by omega); have g2 := get_share (nums := nums) hk hl; have d := b_fdiv_ii (nums.getD k 0) 2 ⟨by decide, by decide⟩; have m := b_mod_ii (nums.getD k 0 / 2) 256 (by decide); simp only [denE, denEs, q1, q2, q3, h3, h5, g1, g2, d, m]; exact lamps_den _ _ (share_small _)
theorem colours_eval (h1 : lk pe 1 = some (.int (nums.length : Int))) (h3 : lk pe 3 = some (intL nums)) (h5 : lk pe 5 = some (intL (nums.map share))) (hl : nums.length <= 10)
    (hs : ∀ v, lk (st pe 42 v) 42 = some v /\ lk (st pe 42 v) 3 = lk pe 3 /\ lk (st pe 42 v) 5 = lk pe 5) : denE (FT funs (n + 1)) (.comp (.call 14 (.cons (.bin .Add (.bin .Mod (.bin .FloorDiv (.sub (.var 3) (.var 42)) (.cst (.int 2))) (.cst (.int 256))) (.bin .Mult (.cst (.int 256)) (.bin .Mod (.sub (.var 3) (.var 42)) (.cst (.int 2))))) (.cons (.sub (.var 5) (.var 42)) .nil))) 42 (.rng1 (.var 1)) false (.cst .none)) pe = some (.lst ((nums.map colOf).map lp)) := by
  rw [comp_rng (m := nums.length) (fun k => lp (colOf (nums.getD k 0))) (by simp only [denE, h1]) (by omega) ?_, range_getD (fun x => lp (colOf x)), List.map_map]
  · rfl
  · intro k hk; obtain ⟨q1, q2, q3⟩ := hs (.int (k : Int)); have g1 := get_int (l := nums) hk (by omega); have g2 := get_share (nums := nums) hk hl; have d := b_fdiv_ii (nums.getD k 0) 2 ⟨by decide, by decide⟩; have m := b_mod_ii (nums.getD k 0 / 2) 256 (by decide); have m2 := b_mod_ii (nums.getD k 0) 2 (by decide); have p := b_mul_ii 256 (nums.getD k 0 % 2) (by decide); simp only [denE, denEs, q1, q2, q3, h3, h5, g1, g2, d, m, m2, p, b_add_ii]; exact lamps_den _ _ (share_small _)
def kdL : List (List Pc) := [[], [([92, 40], false)], [([92, 41], false)], [([40], true)], [([41], true)], [([92, 34, 41], true)], [([92, 92], false)], [([92, 34], false)]]
theorem kd_ok : ∀ kd ∈ kdL, KdOk kd := by
  intro kd h; simp only [kdL, List.mem_cons, List.not_mem_nil, or_false] at h; rcases h with rfl | rfl | rfl | rfl | rfl | rfl | rfl | rfl <;>
    (constructor <;> simp [PcsOk, Pl, pend, uns, bareP, flatP, quo])
theorem kinds_val : denE (FT funs n) (.list (.cons (.cst (.str ("" : Str))) (.cons (.cst (.str ("\\(" : Str))) (.cons (.cst (.str ("\\)" : Str))) (.cons (.cst (.str ("\"(\"" : Str))) (.cons (.cst (.str ("\")\"" : Str))) (.cons (.cst (.str ("\"\\\")\"" : Str))) (.cons (.cst (.str ("\\\\" : Str))) (.cons (.cst (.str ("\\\"" : Str))) .nil))))))))) pe = some (strL (kdL.map flatP)) := by
  simp only [denE, denEs, Option.map_some]; rfl
def kdOf (k : Nat) (x : Int) : List Pc := if k = 1 \/ k = 3 then kdL.getD (x / 2048 % 8).toNat [] else []
theorem kdOf_ok (k : Nat) (x : Int) : KdOk (kdOf k x) := by
  unfold kdOf; split
  · refine kd_ok _ ?_; have h : (x / 2048 % 8).toNat < kdL.length := by simp [kdL]; omega
    simp only [List.getD, List.getElem?_eq_getElem h, Option.getD_some]; exact List.getElem_mem h
  · exact kd_ok [] (by simp [kdL])
def leaf (nums : List Int) (k : Nat) : Tr := .leaf k (kdOf k (nums.getD k 0))
theorem texts_eval {F : Nat -> List PV -> Option PV} (h1 : lk pe 1 = some (.int (nums.length : Int))) (h3 : lk pe 3 = some (intL nums)) (h9 : lk pe 9 = some (strL (kdL.map flatP))) (hl : nums.length <= 7) (hn : ∀ x ∈ nums, 0 <= x)
    (hs : ∀ v, lk (st pe 41 v) 41 = some v /\ lk (st pe 41 v) 3 = lk pe 3 /\ lk (st pe 41 v) 9 = lk pe 9) : denE F (.comp (.bin .Add (.sub (.cst (.str ("abcdefg" : Str))) (.var 41)) (.ite (.cmp .In (.var 41) (.tup (.cons (.cst (.int 1)) (.cons (.cst (.int 3)) .nil)))) (.sub (.var 9) (.bin .Mod (.bin .FloorDiv (.sub (.var 3) (.var 41)) (.cst (.int 2048))) (.cst (.int 8)))) (.cst (.str ("" : Str))))) 41 (.rng1 (.var 1)) false (.cst .none)) pe = some (.lst (((List.range nums.length).map (leaf nums)).map txP)) := by
  rw [comp_rng (m := nums.length) (fun k => txP (leaf nums k)) (by simp only [denE, h1]) (by omega) ?_, List.map_map]
  · rfl
  · intro k hk; obtain ⟨q1, q2, q3⟩ := hs (.int (k : Int)); have g0 : getF (.str ("abcdefg" : Str)) (.int (k : Int)) = some (.str (sx [97 + k])) := by
      have : k = 0 \/ k = 1 \/ k = 2 \/ k = 3 \/ k = 4 \/ k = 5 \/ k = 6 := by omega
      rcases this with rfl | rfl | rfl | rfl | rfl | rfl | rfl <;> rfl
    have hin : cmpF .In (.int (k : Int)) (.tup [.int 1, .int 3]) = some (decide (k = 1 \/ k = 3)) := by
      have : k = 0 \/ k = 1 \/ k = 2 \/ k = 3 \/ k = 4 \/ k = 5 \/ k = 6 := by omega
      rcases this with rfl | rfl | rfl | rfl | rfl | rfl | rfl <;> rfl
    have g1 := get_int (l := nums) hk (by omega); have d := b_fdiv_ii (nums.getD k 0) 2048 ⟨by decide, by decide⟩; have m := b_mod_ii (nums.getD k 0 / 2048) 8 (by decide); simp only [denE, denEs, q1, q2, q3, h3, h9, g0, g1, d, m, hin, Option.map_some]; unfold txP leaf kdOf
    by_cases hk13 : k = 1 \/ k = 3
    · rw [decide_eq_true hk13, if_pos hk13]; have hlt : (nums.getD k 0 / 2048 % 8).toNat < kdL.length := by simp [kdL]; omega
      obtain ⟨kd, hkd⟩ : ∃ kd, kdL[(nums.getD k 0 / 2048 % 8).toNat]? = some kd := ⟨_, List.getElem?_eq_getElem hlt⟩; have e : kdL.getD (nums.getD k 0 / 2048 % 8).toNat [] = kd := by rw [List.getD, hkd]; rfl
      have g2 : getF (strL (kdL.map flatP)) (.int (nums.getD k 0 / 2048 % 8)) = some (.str (sx (flatP kd))) := by
        refine getF_l (by omega) (by omega) ?_; rw [List.getElem?_map, List.getElem?_map, hkd]; rfl
      have hlen := (kd_ok kd (List.mem_of_getElem? hkd)).len; have b1 := b_add_sx [97 + k] (flatP kd) (by simp; omega); simp only [g2, b1]; rw [e]; rfl
    · rw [decide_eq_false hk13, if_neg hk13]; simp only; rw [show PV.str ("" : Str) = .str (sx []) from rfl, b_add_sx _ _ (by simp)]; rfl
end L2
end Mine
end
section
open PySem PySem.W PyProof.Rows
namespace Mine
namespace L2
variable {n : Nat}
theorem mark_tree {nums : List Int} {bs : List Bool} {ls : List Col} {w : Int} {s : Nat} (X : Fr nums bs ls w s) {t : Tr} (h : Ok bs t) : FT funs (n + 2) 15 [lp (pc ls bs t), .int w] = some (mkS (mkT bs t)) := by
  have hw0 := X.w0; have hw1 := X.w1; have hsegne : seg ls t ≠ [] := fun e => by
    have := seg_len X.ll h; rw [e] at this; have := h.lt; simp at *; omega
  have hsegm : ∀ u ∈ seg ls t, Lt 1024 u := fun u hu => X.lt u (List.mem_of_mem_take (List.mem_of_mem_drop hu)); obtain ⟨a1, a2, a3, a4, a5, a6⟩ := pc_bd X h; have := mark_den (n := n) (w := w) (a := (pc ls bs t).1) (b := (pc ls bs t).2.1) (c := (pc ls bs t).2.2) ⟨by omega, by omega⟩ ⟨by omega, by omega⟩ ⟨by omega, by omega⟩; have pm : isPlain (pc ls bs t).1 (pc ls bs t).2.1 (pc ls bs t).2.2 = decide (Mine.pts (seg bs t) % 3 = 1) := parts_mark hsegm hsegne; rw [pm] at this; exact this
theorem light_of (x : Int) : Lt 1024 (lightOf x) /\ norm (lightOf x) = lightOf x /\ colOf x = if bit x then opp (lightOf x) else lightOf x := by
  obtain ⟨h1, h2, h3⟩ := light_lt (p := x / 2 % 256) (s := share x) (by omega) (by omega) (share_cases x); refine ⟨h1, h2, ?_⟩; unfold colOf lightOf bit; have : x % 2 = 0 \/ x % 2 = 1 := by omega
  rcases this with h | h
  · rw [h, if_neg (by decide)]; congr 1; omega
  · rw [h, if_pos (by decide), <- h3]; congr 1
theorem parts_one (x : Int) : partsC [lightOf x] [bit x] = colOf x := by
  obtain ⟨-, h2, h3⟩ := light_of x; have hs : sumC [lightOf x] = lightOf x := by
    simp only [sumC]; refine Prod.ext ?_ (Prod.ext ?_ ?_) <;> simp
  unfold partsC; rw [hs, h2, h3]; cases bit x
  · rw [if_pos (by decide), if_neg (by decide)]
  · rw [if_neg (by decide), if_pos (by decide)]
def ts0 (nums : List Int) : List Tr := (List.range nums.length).map (leaf nums)
theorem ts0_len (nums : List Int) : (ts0 nums).length = nums.length := by simp [ts0]
theorem ts0_ok (nums : List Int) : ∀ t ∈ ts0 nums, Ok (nums.map bit) t := by
  intro t ht; obtain ⟨k, hk, rfl⟩ := List.mem_map.mp ht; exact .leaf (by simpa using hk) (kdOf_ok _ _)
theorem chain_range (nums : List Int) : ∀ (m i : Nat), Chain i ((List.range' i m).map (leaf nums)) (i + m)
  | 0, i => rfl
  | m + 1, i => by
    rw [List.range'_succ, List.map_cons]; refine ⟨rfl, ?_⟩; have := chain_range nums m (i + 1); rw [show i + 1 + m = i + (m + 1) by omega] at this; exact this
theorem ts0_chain (nums : List Int) : Chain 0 (ts0 nums) (nums.map bit).length := by
  have := chain_range nums nums.length 0; rw [<- List.range_eq_range', Nat.zero_add] at this; rw [List.length_map]; exact this
theorem ts0_dep (nums : List Int) (s : Nat) : depF s (ts0 nums) = 0 := by
  unfold depF ts0; rw [List.map_map]; have : ∀ l : List Nat, (l.map (Tr.dep s ∘ leaf nums)).sum = 0 := by
    intro l
    induction l with
    | nil => rfl
    | cons a l ih => rw [List.map_cons, List.sum_cons, ih]; rfl
  exact this _
theorem leaf_pc (nums : List Int) {k : Nat} (hk : k < nums.length) : pc (nums.map lightOf) (nums.map bit) (leaf nums k) = colOf (nums.getD k 0) := by
  unfold pc leaf; rw [seg_leaf (by simpa using hk), seg_leaf (by simpa using hk), <- parts_one]; congr 2 <;> simp [List.getD, hk]
theorem leaf_mk (nums : List Int) {k : Nat} (hk : k < nums.length) : mkT (nums.map bit) (leaf nums k) = bit (nums.getD k 0) := by
  unfold mkT leaf; rw [seg_leaf (by simpa using hk)]; have : (nums.map bit)[k]'(by simpa using hk) = bit (nums.getD k 0) := by simp [List.getD, hk]
  rw [this]; cases bit (nums.getD k 0) <;> rfl
theorem ts0_cols (nums : List Int) : (nums.map colOf).map lp = (ts0 nums).map fun t => lp (pc (nums.map lightOf) (nums.map bit) t) := by
  rw [List.map_map]; have := range_getD (fun x => lp (colOf x)) nums; rw [show (lp ∘ colOf) = fun x => lp (colOf x) from rfl, <- this]; unfold ts0; rw [List.map_map]; refine List.map_congr_left fun k hk => ?_; rw [List.mem_range] at hk; simp only [Function.comp, leaf_pc nums hk]
theorem ts0_marks (nums : List Int) : (nums.map bit).map mkS = (ts0 nums).map fun t => mkS (mkT (nums.map bit) t) := by
  rw [List.map_map]; have := range_getD (fun x => mkS (bit x)) nums; rw [show (mkS ∘ bit) = fun x => mkS (bit x) from rfl, <- this]; unfold ts0; rw [List.map_map]; refine List.map_congr_left fun k hk => ?_; rw [List.mem_range] at hk; simp only [Function.comp, leaf_mk nums hk]
theorem ts0_mkT (nums : List Int) : (ts0 nums).map (mkT (nums.map bit)) = nums.map bit := by
  have := range_getD bit nums; refine Eq.trans ?_ this; unfold ts0; rw [List.map_map]; refine List.map_congr_left fun k hk => ?_; rw [List.mem_range] at hk; exact leaf_mk nums hk
def whiteOf (nums : List Int) : Int := nums.getD 0 0 / 2048 % 15 * 8192
theorem frame {nums : List Int} (hl : nums.length <= 7) (hn : ∀ x ∈ nums, 0 <= x) {s : Nat} (hs : s < nums.length) : Fr nums (nums.map bit) (nums.map lightOf) (whiteOf nums) s where
  c7 := by simpa using hl
  nl := by simp
  ll := by simp
  n0 := hn
  lt := by
    intro t ht; obtain ⟨x, _, rfl⟩ := List.mem_map.mp ht; exact (light_of x).1
  w0 := by unfold whiteOf; omega
  w1 := by unfold whiteOf; omega
  sp := by simpa using hs
section
variable {pe : PEnv} {nums : List Int}
theorem white_eval {F : Nat -> List PV -> Option PV} (h3 : lk pe 3 = some (intL nums)) (h : 0 < nums.length) : denE F (.bin .Mult (.bin .Mod (.bin .FloorDiv (.sub (.var 3) (.cst (.int 0))) (.cst (.int 2048))) (.cst (.int 15))) (.bin .Pow (.cst (.int 2)) (.cst (.int 13)))) pe = some (.int (whiteOf nums)) := by
  have g := get_int (l := nums) (k := 0) h (by decide); rw [show ((0 : Nat) : Int) = 0 from rfl] at g; have d := b_fdiv_ii (nums.getD 0 0) 2048 ⟨by decide, by decide⟩; have m := b_mod_ii (nums.getD 0 0 / 2048) 15 (by decide); have p : binF .Pow (.int 2) (.int 13) = some (.int 8192) := by rw [b_pow_ii _ _ (by decide)]; rfl
  have q := b_mul_ii (nums.getD 0 0 / 2048 % 15) 8192 (by unfold smallI; simp; omega); simp only [denE, h3, g, d, m, p, q]; rfl
theorem marks_eval {bs : List Bool} {ls : List Col} {w : Int} {s : Nat} (X : Fr nums bs ls w s) {ts : List Tr} (hok : ∀ t ∈ ts, Ok bs t) (hl : ts.length <= 100) (h7 : lk pe 7 = some (.lst (ts.map fun t => lp (pc ls bs t)))) (h8 : lk pe 8 = some (.int w))
    (hs : ∀ v, lk (st pe 40 v) 40 = some v /\ lk (st pe 40 v) 8 = lk pe 8) : denE (FT funs (n + 2)) (.comp (.call 15 (.cons (.var 40) (.cons (.var 8) .nil))) 40 (.val (.var 7)) false (.cst .none)) pe = some (.lst (ts.map fun t => mkS (mkT bs t))) := by
  rw [comp_map (items := ts.map fun t => lp (pc ls bs t)) (fun p => match FT funs (n + 2) 15 [p, .int w] with | some r => r | none => .none) (di_lst (by simp only [denE, h7]) (by simp; omega)) ?_]
  · congr 2; rw [List.map_map]; refine List.map_congr_left fun t ht => ?_; simp only [Function.comp, mark_tree X (hok t ht)]
  · intro p hp; obtain ⟨t, ht, rfl⟩ := List.mem_map.mp hp; obtain ⟨q1, q2⟩ := hs (lp (pc ls bs t)); simp only [denE, denEs, q1, q2, h8, mark_tree X (hok t ht)]
theorem signs_eval {bs : List Bool} {r : List Int} (h11 : lk pe 11 = some (.lst (bs.map mkS))) (hl : bs.length <= 100) (hr : toks 999 (chars bs) = some r) : denE (FT funs (n + 1)) (.call 10 (.cons (.me .join (.cst (.str ("" : Str))) (.cons (.var 11) .nil)) .nil)) pe = some (intL r) := by
  have j := join_marks bs (by omega); have hread : FT funs (n + 1) 10 [.str (sx (chars bs))] = some (intL r) := by
    rw [readc]; exact read_den hr (by simp [chars]; omega)
  rw [show PV.str ("" : Str) = .str (sx []) from rfl]; simp only [denE, denEs, h11, j, hread]
end
end L2
end Mine
end
section
open PySem PySem.W PyProof.Rows
namespace Mine
namespace L2
variable {n : Nat}
theorem dep_out {bs : List Bool} {s : Nat} {t : Tr} (ht : Ok bs t) : (s < t.f \/ t.l <= s) -> t.dep s = 0 := by
  induction ht with
  | leaf => intro _; rfl
  | node ha hb h hm iha ihb =>
    intro hs; have l1 := ha.lt; have l2 := hb.lt; simp only [Tr.f, Tr.l] at hs; simp only [Tr.dep]; rw [if_neg (by omega), iha (by omega), ihb (by omega)]
theorem depF_out {bs : List Bool} (hb : bs.length <= 20) {s : Nat} : ∀ {ts : List Tr} {i j : Nat}, (∀ t ∈ ts, Ok bs t) -> Chain i ts j -> (s < i \/ j <= s) -> depF s ts = 0
  | [], _, _, _, _, _ => rfl
  | t :: ts, i, j, hok, h, hs => by
    obtain ⟨h1, h2⟩ := h; have ht := hok t (by simp); have l := ht.lt; have hle := (forest_ok hb (fun u hu => hok u (by simp [hu])) h2).2.2.2.1; have e : depF s (t :: ts) = t.dep s + depF s ts := by simp [depF]
    rw [e, dep_out ht (by omega), depF_out hb (fun u hu => hok u (by simp [hu])) h2 (by omega)]
theorem spot_forest {bs : List Bool} (hb : bs.length <= 20) {s : Nat} : ∀ {ts : List Tr} {i j : Nat}, (∀ t ∈ ts, Ok bs t) -> Chain i ts j -> i <= s -> s < j ->
    ∃ A B, pcsF ts = A ++ (([97 + s], false) : Pc) :: B /\ (∀ o, par o (uns false (bareP A)) = some (o + depF s ts)) /\ 97 + s ∉ flatP A /\ 97 + s ∉ flatP B
  | [], i, j, _, h, h1, h2 => by
    have h : i = j := h; omega
  | t :: ts, i, j, hok, h, h1, h2 => by
    obtain ⟨h3, h4⟩ := h; have ht := hok t (by simp); have l := ht.lt; have hok' : ∀ u ∈ ts, Ok bs u := fun u hu => hok u (by simp [hu]); obtain ⟨q1, q2, q3, q4, q5, q6, q7⟩ := forest_ok hb hok' h4; have e : pcsF (t :: ts) = t.pcs ++ pcsF ts := by simp [pcsF]
    have ed : depF s (t :: ts) = t.dep s + depF s ts := by simp [depF]
    rw [e, ed]
    by_cases hs : s < t.l
    · obtain ⟨A, B, e1, p1, a1, b1⟩ := spot_tree hb ht (by omega) hs; refine ⟨A, B ++ pcsF ts, by rw [e1]; simp, fun o => ?_, a1, ?_⟩
      · rw [p1, depF_out hb hok' h4 (by omega), Nat.add_zero]
      · rw [flatP_app, List.mem_append, not_or]; refine ⟨b1, fun hc => ?_⟩; rcases q2 _ hc with h | h <;> omega
    · obtain ⟨A, B, e1, p1, a1, b1⟩ := spot_forest hb hok' h4 (by omega) h2; refine ⟨t.pcs ++ A, B, by rw [e1]; simp, fun o => ?_, ?_, b1⟩
      · rw [bareP_app, uns_app _ _ (bare_pl (ht.pcsOk hb)).1, par_app, par_tree hb ht]; simp only [Option.bind_some]; rw [p1, dep_out ht (by omega)]; congr 1; omega
      · rw [flatP_app, List.mem_append, not_or]; refine ⟨fun hc => ?_, a1⟩; rcases ht.low _ hc with h | h <;> omega
theorem check_pcs {l : List Pc} {last : List Nat} (h : PcsOk l) (hl : LastOk last) (hlen : (flatP l).length + last.length <= 1000) (ha : ∀ c ∈ flatP l, c < 128) (ha' : ∀ c ∈ last, c < 128) :
    FT funs (n + 2) 9 [.str (sx (flatP l ++ last))] = some (.bool (parOk (bareP l ++ last))) := by
  have bareSub : ∀ (l : List Pc), (∀ c ∈ bareP l, c ∈ flatP l) /\ (bareP l).length <= (flatP l).length := by
    intro l
    induction l with
    | nil => simp [bareP]
    | cons p l ih =>
      obtain ⟨s, b⟩ := p; cases b
      · simp only [bareP, flatP, List.mem_append, List.length_append]; exact ⟨fun c hc => hc.imp id (ih.1 c), by omega⟩
      · simp only [bareP, flatP, List.mem_append, List.length_append]; exact ⟨fun c hc => .inr (ih.1 c hc), by omega⟩
  obtain ⟨b1, b2⟩ := bareSub l; rw [checkc]; refine check_den (r := bareP l ++ last) ?_ (by simp; omega) ?_
  · rw [stripc, <- strip_pcs h hl]; refine strip_den (by simp; omega) ?_; rw [List.all_eq_true]; intro c hc; simp only [decide_eq_true_eq]; rcases List.mem_append.mp hc with hc | hc
    · exact ha c hc
    · exact ha' c hc
  · rw [List.all_eq_true]; intro c hc; simp only [decide_eq_true_eq]; rcases List.mem_append.mp hc with hc | hc
    · exact ha c (b1 c hc)
    · exact ha' c hc
theorem uns_close : ∀ (d : Nat) (r : List Nat), uns false (List.replicate d 41 ++ r) = List.replicate d [41] ++ uns false r
  | 0, r => rfl
  | d + 1, r => by
    rw [List.replicate_succ, List.cons_append, uns_one (by decide), uns_close d r, List.replicate_succ, List.cons_append]
theorem par_closes : ∀ (d o : Nat) (us : List (List Nat)), par (o + d) (List.replicate d [41] ++ us) = par o us
  | 0, o, us => rfl
  | d + 1, o, us => by
    rw [List.replicate_succ, List.cons_append, show o + (d + 1) = (o + d) + 1 by omega, par_close, par_closes d o us]
theorem fronts {A : List Pc} {s d : Nat} (hs : s < 20) (hA : PcsOk A) (hp : par 0 (uns false (bareP A)) = some d) (hlen : (flatP A).length <= 300) (hd : d <= 300) (ha : ∀ c ∈ flatP A, c < 128) :
    FT funs (n + 2) 9 [.str (sx (flatP A ++ [97 + s]))] = some (.bool (d == 0)) /\ FT funs (n + 2) 9 [.str (sx (flatP A ++ [97 + s] ++ List.replicate d 41))] = some (.bool true) /\
    FT funs (n + 2) 9 [.str (sx (flatP A ++ [97 + s] ++ List.replicate d 41 ++ [41, 40]))] = some (.bool false) /\ FT funs (n + 2) 9 [.str (sx (flatP A ++ [97 + s] ++ List.replicate d 41 ++ [34, 41]))] = some (.bool false) := by
  have hbp := bare_pl hA; have hrep : ∀ c ∈ List.replicate d 41, c < 128 := fun c hc => by rw [List.mem_replicate] at hc; omega
  have hmem : ∀ r : List Nat, (∀ c ∈ r, c < 128) -> ∀ c ∈ ([97 + s] ++ List.replicate d 41 ++ r), c < 128 := by
    intro r hr c hc; simp only [List.mem_append, List.mem_cons, List.not_mem_nil, or_false] at hc; rcases hc with (rfl | hc) | hc
    · omega
    · exact hrep c hc
    · exact hr c hc
  have run : ∀ r : List Nat, par 0 (uns false (bareP A ++ ([97 + s] ++ List.replicate d 41 ++ r))) = par 0 (uns false r) := by
    intro r; rw [uns_app _ _ hbp.1, par_app, hp]; simp only [Option.bind_some]; rw [List.append_assoc, List.cons_append, List.nil_append, uns_one (by omega), par_letter, uns_close]; have := par_closes d 0 (uns false r); rw [Nat.zero_add] at this; exact this
  have okr : ∀ r : List Nat, (∀ u ∈ uns false r, u ≠ [34]) -> ∀ u ∈ uns false ([97 + s] ++ List.replicate d 41 ++ r), u ≠ [34] := by
    intro r hr u hu; rw [List.append_assoc, List.cons_append, List.nil_append, uns_one (by omega), uns_close] at hu; simp only [List.mem_cons, List.mem_append, List.mem_replicate] at hu; rcases hu with rfl | ⟨-, rfl⟩ | hu
    · intro e; simp at e; omega
    · decide
    · exact hr u hu
  refine ⟨?_, ?_, ?_, ?_⟩
  · have h := check_pcs (n := n) (l := A) (last := [97 + s]) hA (.inl (by intro u hu; rw [uns_one (by omega)] at hu; simp [uns] at hu; subst hu; intro e; simp at e; omega)) (by simp; omega) ha (by simp; omega); rw [h]; congr 2; unfold parOk; rw [uns_app _ _ hbp.1, par_app, hp]; simp only [Option.bind_some]; rw [uns_one (by omega), par_letter]; show (some d == some 0) = _; rfl
  · have h := check_pcs (n := n) (l := A) (last := [97 + s] ++ List.replicate d 41 ++ []) hA (.inl (okr [] (by simp [uns]))) (by simp; omega) ha (hmem [] (by simp)); rw [List.append_nil] at h; rw [List.append_assoc, h]; unfold parOk; have := run []; rw [List.append_nil] at this; rw [this]; rfl
  · have h := check_pcs (n := n) (l := A) (last := [97 + s] ++ List.replicate d 41 ++ [41, 40]) hA (.inl (okr [41, 40] (by simp [uns]))) (by simp; omega) ha (hmem [41, 40] (by simp)); rw [List.append_assoc, List.append_assoc, <- List.append_assoc [97 + s], h]; unfold parOk; rw [run]; rfl
  · have hpl : Pl ([97 + s] ++ List.replicate d 41) := by
      refine ⟨?_, ?_⟩
      · rw [pend_app]; have : pend false [97 + s] = false := by simp [pend]; omega
        rw [this]; have : ∀ m : Nat, pend false (List.replicate m 41) = false := by
          intro m
          induction m with
          | zero => rfl
          | succ m ih => rw [List.replicate_succ]; exact ih
        exact this d
      · have := okr [] (by simp [uns]); rw [List.append_nil] at this; exact this
    have h := check_pcs (n := n) (l := A) (last := [97 + s] ++ List.replicate d 41 ++ [34, 41]) hA (.inr ⟨[97 + s] ++ List.replicate d 41, [41], rfl, hpl, by simp [uns]⟩) (by simp; omega) ha (hmem [34, 41] (by simp)); rw [List.append_assoc, List.append_assoc, <- List.append_assoc [97 + s], h]; unfold parOk; rw [run]; rfl
end L2
end Mine
end
section
open PySem PySem.W PyProof.Rows
namespace Mine
namespace L2
variable {n : Nat} {pe : PEnv}
theorem dots (bs : List Bool) : (bs.map fun b : Bool => if b then [46, 46] else [46]).flatten = List.replicate (pts bs) 46 := by
  induction bs with
  | nil => rfl
  | cons b l ih =>
    rw [List.map_cons, List.flatten_cons, ih]; have e : pts (b :: l) = pts [b] + pts l := by rw [<- pts_app]; rfl
    rw [e]; cases b
    · show [46] ++ _ = _; rw [show pts [false] = 1 from rfl, Nat.add_comm, List.replicate_succ]; rfl
    · show [46, 46] ++ _ = _; rw [show pts [true] = 2 from rfl, Nat.add_comm, List.replicate_succ, List.replicate_succ]; rfl
theorem pts_le (bs : List Bool) : pts bs <= 2 * bs.length := by
  have : bs.countP (· == false) + bs.countP (· == true) = bs.length := by
    induction bs with
    | nil => rfl
    | cons b l ih => cases b <;> simp [List.countP_cons] at * <;> omega
  unfold pts; omega
def points (m : Nat) : List Int := List.replicate (m / 3) 52 ++ List.replicate (m % 3) 23
theorem many_eval {F : Nat -> List PV -> Option PV} {bs : List Bool} (h4 : lk pe 4 = some (.lst (bs.map mkS))) : denE F (.bin .Add (.me .count (.var 4) (.cons (.cst (.str ("<" : Str))) .nil)) (.bin .Mult (.cst (.int 2)) (.me .count (.var 4) (.cons (.cst (.str (">" : Str))) .nil)))) pe = some (.int (pts bs : Int)) := by
  rw [show PV.str ("<" : Str) = mkS false from rfl, show PV.str (">" : Str) = mkS true from rfl]; have c1 := count_mk false bs; have c2 := count_mk true bs; have m := b_mul_ii 2 ((bs.countP (· == true) : Nat) : Int) (by decide); simp only [denE, denEs, h4, c1, c2, m, b_add_ii]; unfold pts; congr 2
theorem points_eval {bs : List Bool} (hl : bs.length <= 7) (h11 : lk pe 11 = some (.lst (bs.map mkS))) (hs : ∀ v, lk (st pe 39 v) 39 = some v) : denE (FT funs (n + 1)) (.call 10 (.cons (.me .join (.cst (.str ("" : Str))) (.cons (.comp (.ite (.cmp .Eq (.var 39) (.cst (.str ("<" : Str)))) (.cst (.str ("." : Str))) (.cst (.str (".." : Str)))) 39 (.val (.var 11)) false (.cst .none)) .nil)) .nil)) pe = some (intL (points (pts bs))) := by
  have hcomp : denE (FT funs (n + 1)) (.comp (.ite (.cmp .Eq (.var 39) (.cst (.str ("<" : Str)))) (.cst (.str ("." : Str))) (.cst (.str (".." : Str)))) 39 (.val (.var 11)) false (.cst .none)) pe = some (strL (bs.map fun b : Bool => if b then [46, 46] else [46])) := by
    rw [comp_map (items := bs.map mkS) (fun p => match cmpF .Eq p (mkS false) with | some true => .str (sx [46]) | _ => .str (sx [46, 46])) (di_lst (by simp only [denE, h11]) (by simp; omega)) ?_]
    · congr 1; unfold strL; rw [List.map_map, List.map_map]; congr 1; refine List.map_congr_left fun b _ => ?_; simp only [Function.comp, eq_mk]; cases b <;> rfl
    · intro p hp; obtain ⟨b, hb, rfl⟩ := List.mem_map.mp hp; rw [show PV.str ("<" : Str) = mkS false from rfl]; simp only [denE, hs, eq_mk, Option.map_some]; cases b <;> rfl
  have hsum : ((bs.map fun b : Bool => if b then [46, 46] else [46]).map List.length).sum = pts bs := by
    have := congrArg List.length (dots bs); rw [List.length_flatten, List.length_replicate] at this; exact this
  have hpl := pts_le bs; have j := join_den [] (bs.map fun b : Bool => if b then [46, 46] else [46]) (by rw [hsum]; simp; omega); rw [joinL_nil, dots] at j; have hp : pointOk (pts bs) = true := List.all_eq_true.mp point_all _ (by rw [List.mem_range]; omega); have hread : FT funs (n + 1) 10 [.str (sx (List.replicate (pts bs) 46))] = some (intL (points (pts bs))) := by
    rw [readc]; exact read_den (eq_of_beq hp) (by simp; omega)
  rw [show PV.str ("" : Str) = .str (sx []) from rfl]; simp only [denE, denEs] at hcomp ⊢; rw [hcomp]; simp only [j, hread]
theorem rep_flat (k : Nat) (x : Int) : (List.replicate k [PV.int x]).flatten = (List.replicate k x).map PV.int := by
  induction k with
  | zero => rfl
  | succ k ih => rw [List.replicate_succ, List.flatten_cons, ih, List.replicate_succ]; rfl
theorem mul_l (x : Int) (k : Nat) (h : k < 1000) : binF .Mult (.lst [.int x]) (.int (k : Int)) = some (intL (List.replicate k x)) := by
  have e : binF .Mult (.lst [.int x]) (.int (k : Int)) = if [PV.int x].length <= 1000 /\ (k : Int) < 1000 /\ -1000 < (k : Int) then some (.lst (List.replicate (k : Int).toNat [PV.int x]).flatten) else none := rfl; rw [e, if_pos ⟨by simp, by omega, by omega⟩, Int.toNat_natCast, rep_flat]; rfl
theorem ptest_eval {F : Nat -> List PV -> Option PV} {m : Nat} (hm : m <= 14) (h13 : lk pe 13 = some (.int (m : Int))) (h14 : lk pe 14 = some (intL (points m))) : denE F (.cmp .NotEq (.var 14) (.bin .Add (.bin .Mult (.list (.cons (.cst (.int 52)) .nil)) (.bin .FloorDiv (.var 13) (.cst (.int 3)))) (.bin .Mult (.list (.cons (.cst (.int 23)) .nil)) (.bin .Mod (.var 13) (.cst (.int 3)))))) pe = some (.bool false) := by
  have d := b_fdiv_ii (m : Int) 3 ⟨by decide, by decide⟩; have r := b_mod_ii (m : Int) 3 (by decide); have m1 := mul_l 52 (m / 3) (by omega); have m2 := mul_l 23 (m % 3) (by omega); rw [show ((m / 3 : Nat) : Int) = (m : Int) / 3 by omega] at m1; rw [show ((m % 3 : Nat) : Int) = (m : Int) % 3 by omega] at m2; have a := b_add_ll ((List.replicate (m / 3) (52 : Int)).map .int) ((List.replicate (m % 3) (23 : Int)).map .int) (by simp; omega); have e : PV.lst ((List.replicate (m / 3) (52 : Int)).map .int ++ (List.replicate (m % 3) (23 : Int)).map .int) = intL (points m) := by
    unfold intL points; rw [List.map_append]
  rw [e] at a; have ne : cmpF .NotEq (intL (points m)) (intL (points m)) = some false := ne_same (by unfold intL; simp [plainP]) (fun x h => by cases h); simp only [denE, denEs, h13, h14, d, r, Option.map_some, m1, m2]; unfold intL at a ne ⊢; simp only [a, ne, Option.map_some]
def spotOf (nums : List Int) : Nat := (nums.getD 2 0 / 2048 % (nums.length : Int)).toNat
theorem spot_eval {F : Nat -> List PV -> Option PV} {nums : List Int} (hl : 3 <= nums.length) (h1 : lk pe 1 = some (.int (nums.length : Int))) (h3 : lk pe 3 = some (intL nums)) : denE F (.bin .Mod (.bin .FloorDiv (.sub (.var 3) (.cst (.int 2))) (.cst (.int 2048))) (.var 1)) pe = some (.int (spotOf nums : Int)) := by
  have g := get_int (l := nums) (k := 2) (by omega) (by decide); rw [show ((2 : Nat) : Int) = 2 from rfl] at g; have d := b_fdiv_ii (nums.getD 2 0) 2048 ⟨by decide, by decide⟩; have m := b_mod_ii (nums.getD 2 0 / 2048) (nums.length : Int) (by omega); simp only [denE, h1, h3, g, d, m]; unfold spotOf; have := Int.emod_nonneg (nums.getD 2 0 / 2048) (b := (nums.length : Int)) (by omega); rw [Int.toNat_of_nonneg this]
theorem spot_lt {nums : List Int} (hl : 3 <= nums.length) : spotOf nums < nums.length := by
  unfold spotOf; have h1 := Int.emod_nonneg (nums.getD 2 0 / 2048) (b := (nums.length : Int)) (by omega); have h2 := Int.emod_lt_of_pos (nums.getD 2 0 / 2048) (b := (nums.length : Int)) (by omega); omega
def turnC (x : Int) : Col := lightC (x / 2 % 256 + 256 * (1 - x % 2)) (share x)
theorem turned_eval {nums : List Int} {s : Nat} (hl : nums.length <= 7) (hs : s < nums.length) (h3 : lk pe 3 = some (intL nums)) (h5 : lk pe 5 = some (intL (nums.map share))) (h15 : lk pe 15 = some (.int (s : Int))) :
    denE (FT funs (n + 1)) (.call 14 (.cons (.bin .Add (.bin .Mod (.bin .FloorDiv (.sub (.var 3) (.var 15)) (.cst (.int 2))) (.cst (.int 256))) (.bin .Mult (.cst (.int 256)) (.bin .Sub (.cst (.int 1)) (.bin .Mod (.sub (.var 3) (.var 15)) (.cst (.int 2)))))) (.cons (.sub (.var 5) (.var 15)) .nil))) pe = some (lp (turnC (nums.getD s 0))) := by
  have g1 := get_int (l := nums) hs (by omega); have g2 := get_share (nums := nums) hs (by omega); have d := b_fdiv_ii (nums.getD s 0) 2 ⟨by decide, by decide⟩; have m := b_mod_ii (nums.getD s 0 / 2) 256 (by decide); have m2 := b_mod_ii (nums.getD s 0) 2 (by decide); have p := b_mul_ii 256 (1 - nums.getD s 0 % 2) (by decide); simp only [denE, denEs, h3, h5, h15, g1, g2, d, m, m2, p, b_add_ii, b_sub_ii]; exact lamps_den _ _ (share_small _)
theorem turn_sum (x : Int) : ∃ m : Int, (colOf x).1 + (turnC x).1 = m /\ (colOf x).2.1 + (turnC x).2.1 = m /\ (colOf x).2.2 + (turnC x).2.2 = m := by
  obtain ⟨h1, h2, h3⟩ := light_lt (p := x / 2 % 256) (s := share x) (by omega) (by omega) (share_cases x); obtain ⟨m, hm, e⟩ := opp_eq (lightC (x / 2 % 256) (share x)); refine ⟨m, ?_⟩; unfold colOf turnC; have : x % 2 = 0 \/ x % 2 = 1 := by omega
  rcases this with h | h
  · rw [h, show x / 2 % 256 + 256 * 0 = x / 2 % 256 by omega, show x / 2 % 256 + 256 * (1 - 0) = x / 2 % 256 + 256 by omega, h3, e]; refine ⟨?_, ?_, ?_⟩ <;> simp only <;> omega
  · rw [h, show x / 2 % 256 + 256 * 1 = x / 2 % 256 + 256 by omega, show x / 2 % 256 + 256 * (1 - 1) = x / 2 % 256 by omega, h3, e]; refine ⟨?_, ?_, ?_⟩ <;> simp only <;> omega
theorem gone {x w way : Int} (hw : 0 <= w) (hw1 : w <= 114688) (hway : way = 0 \/ way = 1) : FT funs (n + 3) 16 [lp (colOf x), lp (turnC x), .int w, .int way] = some (intL [0, 0, 0]) := by
  obtain ⟨m, e1, e2, e3⟩ := turn_sum x; have hmin : minL [m, m, m] = m := by have := minL3 m m m; omega
  have hmax : maxL [m, m, m] = m := by have := maxL3 m m m; omega
  have := melted_den (n := n) (a := (colOf x).1) (b := (colOf x).2.1) (c := (colOf x).2.2) (a' := (turnC x).1) (b' := (turnC x).2.1) (c' := (turnC x).2.2) (w := w) (way := way) hw hway (by rw [e1, e2, e3, hmin, hmax]; omega); rw [e1, e2, e3, hmin, Int.sub_self] at this; exact this
theorem melttest_eval {nums : List Int} {s : Nat} {w : Int} {CO : PV} (hw : 0 <= w) (hw1 : w <= 114688) (h7 : lk pe 7 = some CO) (g : getF CO (.int (s : Int)) = some (lp (colOf (nums.getD s 0)))) (h8 : lk pe 8 = some (.int w)) (h15 : lk pe 15 = some (.int (s : Int))) (h16 : lk pe 16 = some (lp (turnC (nums.getD s 0))))
    (hs : ∀ v, lk (st pe 38 v) 38 = some v /\ lk (st pe 38 v) 7 = lk pe 7 /\ lk (st pe 38 v) 8 = lk pe 8 /\ lk (st pe 38 v) 15 = lk pe 15 /\ lk (st pe 38 v) 16 = lk pe 16) :
    denE (FT funs (n + 3)) (.cmp .NotEq (.comp (.call 16 (.cons (.sub (.var 7) (.var 15)) (.cons (.var 16) (.cons (.var 8) (.cons (.var 38) .nil))))) 38 (.val (.tup (.cons (.cst (.int 0)) (.cons (.cst (.int 1)) .nil)))) false (.cst .none)) (.list (.cons (.list (.cons (.cst (.int 0)) (.cons (.cst (.int 0)) (.cons (.cst (.int 0)) .nil)))) (.cons (.list (.cons (.cst (.int 0)) (.cons (.cst (.int 0)) (.cons (.cst (.int 0)) .nil)))) .nil)))) pe = some (.bool false) := by
  have item : ∀ way : Int, way = 0 \/ way = 1 -> denE (FT funs (n + 3)) (.call 16 (.cons (.sub (.var 7) (.var 15)) (.cons (.var 16) (.cons (.var 8) (.cons (.var 38) .nil))))) (st pe 38 (.int way)) = some (intL [0, 0, 0]) := by
    intro way hway; obtain ⟨q1, q2, q3, q4, q5⟩ := hs (.int way); have e := gone (n := n) (x := nums.getD s 0) hw hw1 hway; simp only [denE, denEs, q1, q2, q3, q4, q5, h7, h8, h15, h16, g, e]
  have hc : denE (FT funs (n + 3)) (.comp (.call 16 (.cons (.sub (.var 7) (.var 15)) (.cons (.var 16) (.cons (.var 8) (.cons (.var 38) .nil))))) 38 (.val (.tup (.cons (.cst (.int 0)) (.cons (.cst (.int 1)) .nil)))) false (.cst .none)) pe = some (.lst [intL [0, 0, 0], intL [0, 0, 0]]) := by
    have hd : denI (FT funs (n + 3)) (.val (.tup (.cons (.cst (.int 0)) (.cons (.cst (.int 1)) .nil)))) pe = some [.int 0, .int 1] := rfl; simp only [denE, hd, compF, Bool.false_eq_true, if_false, Option.map_some]; have i0 := item 0 (.inl rfl); have i1 := item 1 (.inr rfl); simp only [denE] at i0 i1; rw [i0, i1]; rfl
  have hr : denE (FT funs (n + 3)) (.list (.cons (.list (.cons (.cst (.int 0)) (.cons (.cst (.int 0)) (.cons (.cst (.int 0)) .nil)))) (.cons (.list (.cons (.cst (.int 0)) (.cons (.cst (.int 0)) (.cons (.cst (.int 0)) .nil)))) .nil))) pe = some (.lst [intL [0, 0, 0], intL [0, 0, 0]]) := rfl; have ne : cmpF .NotEq (.lst [intL [0, 0, 0], intL [0, 0, 0]]) (.lst [intL [0, 0, 0], intL [0, 0, 0]]) = some false := ne_same (by rfl) (fun x h => by cases h); show (match denE (FT funs (n + 3)) (.comp (.call 16 (.cons (.sub (.var 7) (.var 15)) (.cons (.var 16) (.cons (.var 8) (.cons (.var 38) .nil))))) 38 (.val (.tup (.cons (.cst (.int 0)) (.cons (.cst (.int 1)) .nil)))) false (.cst .none)) pe, denE (FT funs (n + 3)) (.list (.cons (.list (.cons (.cst (.int 0)) (.cons (.cst (.int 0)) (.cons (.cst (.int 0)) .nil)))) (.cons (.list (.cons (.cst (.int 0)) (.cons (.cst (.int 0)) (.cons (.cst (.int 0)) .nil)))) .nil))) pe with | some x, some y => (cmpF .NotEq x y).map PV.bool | _, _ => none) = _; rw [hc, hr]; simp only [ne, Option.map_some]
theorem rest_eval {F : Nat -> List PV -> Option PV} {m : Nat} (h14 : lk pe 14 = some (intL (points m))) : denE F (.me .count (.var 14) (.cons (.cst (.int 23)) .nil)) pe = some (.int ((m % 3 : Nat) : Int)) := by
  have c := count_int 23 (points m); have e : (points m).countP (· == 23) = m % 3 := by
    unfold points; rw [List.countP_append, List.countP_replicate, List.countP_replicate]; simp
  rw [e] at c; simp only [denE, denEs, h14, c]
theorem due23_eval {bs : List Bool} {r : List Int} (hl : bs.length <= 7) (hr : toks 999 (chars bs) = some r) (h1 : lk pe 1 = some (.int (bs.length : Int))) (h12 : lk pe 12 = some (intL r)) (h28 : lk pe 28 = some (.int ((pts bs % 3 : Nat) : Int))) :
    denE (FT funs (n + 1)) (.ite (.and (.cmp .NotIn (.cst (.int 33)) (.var 12)) (.cmp .NotIn (.cst (.int 34)) (.var 12))) (.var 1) (.ite (.call 2 (.cons (.var 28) .nil)) (.cst (.int 2)) (.cst (.int 1)))) pe = some (.int (finN bs : Int)) := by
  have hlk := like_of hl; unfold likeOk at hlk; rw [hr] at hlk; have hlk := eq_of_beq hlk; have n1 := notin_ints 33 r; have n2 := notin_ints 34 r; have e := eof_den (n := n) ((pts bs % 3 : Nat) : Int); simp only [denE, denEs, h1, h12, h28, n1, n2, e, Option.map_some]; unfold finN; rw [<- hlk]; cases h33 : r.contains 33
  · cases h34 : r.contains 34
    · rfl
    · simp only [Bool.not_false, Bool.not_true, Bool.false_or, if_true]
      by_cases h0 : pts bs % 3 = 0
      · rw [h0, if_pos rfl]; rfl
      · rw [if_neg h0]; have : (((pts bs % 3 : Nat) : Int) == 0) = false := by simp; omega
        rw [this]; rfl
  · simp only [Bool.not_true, Bool.true_or, if_true]
    by_cases h0 : pts bs % 3 = 0
    · rw [h0, if_pos rfl]; rfl
    · rw [if_neg h0]; have : (((pts bs % 3 : Nat) : Int) == 0) = false := by simp; omega
      rw [this]; rfl
theorem lentest_eval {F : Nat -> List PV -> Option PV} {M D : PV} {l : List PV} {f : Nat} (h11 : lk pe 11 = some (.lst l)) (hl : l.length = f) (hf : f <= 1000) (h29 : lk pe 29 = some (.int (f : Int))) (h4 : lk pe 4 = some D) (h18 : F 18 [D] = some (.int (f : Int))) : denE F (.or (.cmp .NotEq (.bi .len (.cons (.var 11) .nil)) (.var 29)) (.cmp .NotEq (.call 18 (.cons (.var 4) .nil)) (.var 29))) pe = some (.bool false) := by
  have b : biF .len [.lst l] = some (.int (f : Int)) := by
    show (if _ then _ else _) = _; rw [if_pos (by omega), hl]
  have c : cmpF .NotEq (.int (f : Int)) (.int (f : Int)) = some false := by rw [c_ne_ii]; simp
  simp only [denE, denEs, h11, h29, h4, b, h18, c, Option.map_some]
theorem one_eval {f m : Nat} {ms : List PV} {b : Bool} (h29 : lk pe 29 = some (.int (f : Int))) (h28 : lk pe 28 = some (.int ((m % 3 : Nat) : Int))) (h11 : lk pe 11 = some (.lst ms)) (h : f = 1 -> ms = [mkS (decide (m % 3 = 2))]) : denE (FT funs (n + 1)) (.and (.cmp .Eq (.var 29) (.cst (.int 1))) (.cmp .NotEq (.var 11) (.list (.cons (.ite (.call 2 (.cons (.bin .Sub (.var 28) (.cst (.int 2))) .nil)) (.cst (.str (">" : Str))) (.cst (.str ("<" : Str)))) .nil)))) pe = some (.bool false) := by
  rw [show PV.str ("<" : Str) = mkS false from rfl, show PV.str (">" : Str) = mkS true from rfl]
  by_cases hf : f = 1
  · have hms := h hf; subst hms; subst hf; have e := eof_den (n := n) (((m % 3 : Nat) : Int) - 2); have e2 : ((((m % 3 : Nat) : Int) - 2) == 0) = decide (m % 3 = 2) := by
      rw [Bool.eq_iff_iff]; simp; omega
    rw [e2] at e; have ne : ∀ q : Bool, cmpF .NotEq (.lst [mkS q]) (.lst [mkS q]) = some false := fun q => ne_same (by rfl) (fun x h => by cases h); have c1 : cmpF .Eq (.int ((1 : Nat) : Int)) (.int 1) = some true := rfl; simp only [denE, denEs, h29, h28, h11, b_sub_ii, e, c1, Option.map_some]; cases decide (m % 3 = 2)
    · simp only [denE, denEs, Option.map_some, ne]
    · simp only [denE, denEs, Option.map_some, ne]
  · have c1 : cmpF .Eq (.int (f : Int)) (.int 1) = some false := by rw [c_eq_ii]; congr 1; simp; omega
    simp only [denE, h29, c1, Option.map_some]
theorem whole_eval {F : Nat -> List PV -> Option PV} {ts : List Tr} (h10 : lk pe 10 = some (.lst (ts.map txP))) (hl : (flatP (pcsF ts)).length <= 1000) : denE F (.me .join (.cst (.str ("" : Str))) (.cons (.var 10) .nil)) pe = some (.str (sx (flatP (pcsF ts)))) := by
  have e : (ts.map fun t => flatP t.pcs).flatten = flatP (pcsF ts) := by
    clear hl h10
    induction ts with
    | nil => rfl
    | cons t r ih =>
      rw [List.map_cons, List.flatten_cons, ih]; have : pcsF (t :: r) = t.pcs ++ pcsF r := by simp [pcsF]
      rw [this, flatP_app]
  have hs : ((ts.map fun t => flatP t.pcs).map List.length).sum <= 1000 := by
    have := congrArg List.length e; rw [List.length_flatten] at this; omega
  have j := join_den [] (ts.map fun t => flatP t.pcs) (by simp only [List.length_nil, Nat.mul_zero]; omega); rw [joinL_nil, e] at j; rw [show PV.str ("" : Str) = .str (sx []) from rfl]; have e2 : strL (ts.map fun t => flatP t.pcs) = .lst (ts.map txP) := by unfold strL; rw [List.map_map]; rfl
  rw [e2] at j; simp only [denE, denEs, h10, j]
theorem back_eval {F : Nat -> List PV -> Option PV} {W M : PV} {bs : List Bool} (h30 : lk pe 30 = some W) (h11 : lk pe 11 = some M) (h4 : lk pe 4 = some (.lst (bs.map mkS))) (h : F 19 [W, M] = some (.lst (bs.map mkS))) : denE F (.cmp .NotEq (.call 19 (.cons (.var 30) (.cons (.var 11) .nil))) (.var 4)) pe = some (.bool false) := by
  have ne : cmpF .NotEq (.lst (bs.map mkS)) (.lst (bs.map mkS)) = some false := ne_same (by simp [plainP, mkS]) (fun x h => by cases h); simp only [denE, denEs, h30, h11, h4, h, ne, Option.map_some]
theorem front_eval {F : Nat -> List PV -> Option PV} {X Y : List Nat} {s : Nat} (hs : s < 7) (hX : 97 + s ∉ X) (hY : 97 + s ∉ Y) (hl : (X ++ (97 + s) :: Y).length <= 1000) (h30 : lk pe 30 = some (.str (sx (X ++ (97 + s) :: Y)))) (h15 : lk pe 15 = some (.int (s : Int))) :
    denE F (.slc (.var 30) (.cst .none) (.bin .Add (.me .index (.var 30) (.cons (.sub (.cst (.str ("abcdefg" : Str))) (.var 15)) .nil)) (.cst (.int 1))) (.cst .none)) pe = some (.str (sx (X ++ [97 + s]))) := by
  have g0 : getF (.str ("abcdefg" : Str)) (.int (s : Int)) = some (.str (sx [97 + s])) := by
    have : s = 0 \/ s = 1 \/ s = 2 \/ s = 3 \/ s = 4 \/ s = 5 \/ s = 6 := by omega
    rcases this with rfl | rfl | rfl | rfl | rfl | rfl | rfl <;> rfl
  have ix := idx_one hX hY (by omega); have u := s_upto (X ++ (97 + s) :: Y) ((X.length : Int) + 1) (by omega) (by omega); have e : (X ++ (97 + s) :: Y).take ((X.length : Int) + 1).toNat = X ++ [97 + s] := by
    rw [show ((X.length : Int) + 1).toNat = X.length + 1 by omega, show X ++ (97 + s) :: Y = (X ++ [97 + s]) ++ Y by simp, show X.length + 1 = (X ++ [97 + s]).length by simp, List.take_left]
  rw [e] at u; simp only [denE, denEs, h30, h15, g0, ix, b_add_ii, partF, u]
theorem mul_s (c d : Nat) (h : d < 1000) : binF .Mult (.str (sx [c])) (.int (d : Int)) = some (.str (sx (List.replicate d c))) := by
  have e : binF .Mult (.str (sx [c])) (.int (d : Int)) = if (sx [c]).length <= 1000 /\ (d : Int) < 1000 /\ -1000 < (d : Int) then some (.str ⟨(List.replicate (d : Int).toNat (sx [c]).cps.toList).flatten.toArray⟩) else none := rfl; rw [e, if_pos ⟨by rw [sx_len]; simp, by omega, by omega⟩, Int.toNat_natCast, sx_cps]; have : (List.replicate d [c]).flatten = List.replicate d c := by
    clear h e
    induction d with
    | zero => rfl
    | succ d ih => rw [List.replicate_succ, List.flatten_cons, ih, List.replicate_succ]; rfl
  rw [this]; rfl
theorem closed_eval {F : Nat -> List PV -> Option PV} {X : List Nat} {d : Nat} (hd : d < 300) (hl : X.length <= 1000) (h31 : lk pe 31 = some (.str (sx X))) (h17 : lk pe 17 = some (.int (d : Int))) : denE F (.bin .Add (.var 31) (.bin .Mult (.cst (.str (")" : Str))) (.var 17))) pe = some (.str (sx (X ++ List.replicate d 41))) := by
  have m := mul_s 41 d (by omega); have a := b_add_sx X (List.replicate d 41) (by simp; omega); rw [show (")" : Str) = sx [41] from rfl]
  simp only [denE, h31, h17, m, a]
end L2
end Mine
end
section
open PySem PySem.W PyProof.Rows
set_option maxRecDepth 100000
namespace Mine
namespace L2
def fewOk (bs : List Bool) : Bool := match FT funs 5 18 [.lst (bs.map mkS)] with
  | some (.int m) => m == (finN bs : Int)
  | _ => false
theorem few5_00 : ((allB 3).all fun l => fewOk (false :: false :: l)) = true := by decide +kernel
theorem few5_01 : ((allB 3).all fun l => fewOk (false :: true :: l)) = true := by decide +kernel
theorem few5_10 : ((allB 3).all fun l => fewOk (true :: false :: l)) = true := by decide +kernel
theorem few5_11 : ((allB 3).all fun l => fewOk (true :: true :: l)) = true := by decide +kernel
theorem few7_0000 : ((allB 3).all fun l => fewOk (false :: false :: false :: false :: l)) = true := by decide +kernel
theorem few7_0001 : ((allB 3).all fun l => fewOk (false :: false :: false :: true :: l)) = true := by decide +kernel
theorem few7_0010 : ((allB 3).all fun l => fewOk (false :: false :: true :: false :: l)) = true := by decide +kernel
theorem few7_0011 : ((allB 3).all fun l => fewOk (false :: false :: true :: true :: l)) = true := by decide +kernel
theorem few7_0100 : ((allB 3).all fun l => fewOk (false :: true :: false :: false :: l)) = true := by decide +kernel
theorem few7_0101 : ((allB 3).all fun l => fewOk (false :: true :: false :: true :: l)) = true := by decide +kernel
theorem few7_0110 : ((allB 3).all fun l => fewOk (false :: true :: true :: false :: l)) = true := by decide +kernel
theorem few7_0111 : ((allB 3).all fun l => fewOk (false :: true :: true :: true :: l)) = true := by decide +kernel
theorem few7_1000 : ((allB 3).all fun l => fewOk (true :: false :: false :: false :: l)) = true := by decide +kernel
theorem few7_1001 : ((allB 3).all fun l => fewOk (true :: false :: false :: true :: l)) = true := by decide +kernel
theorem few7_1010 : ((allB 3).all fun l => fewOk (true :: false :: true :: false :: l)) = true := by decide +kernel
theorem few7_1011 : ((allB 3).all fun l => fewOk (true :: false :: true :: true :: l)) = true := by decide +kernel
theorem few7_1100 : ((allB 3).all fun l => fewOk (true :: true :: false :: false :: l)) = true := by decide +kernel
theorem few7_1101 : ((allB 3).all fun l => fewOk (true :: true :: false :: true :: l)) = true := by decide +kernel
theorem few7_1110 : ((allB 3).all fun l => fewOk (true :: true :: true :: false :: l)) = true := by decide +kernel
theorem few7_1111 : ((allB 3).all fun l => fewOk (true :: true :: true :: true :: l)) = true := by decide +kernel
theorem few_of {bs : List Bool} (h : bs.length = 5 \/ bs.length = 7) : fewOk bs = true := by
  rcases h with h | h
  · match bs, h with
    | [a, b, x, y, z], _ =>
      have hm : [x, y, z] ∈ allB 3 := mem_allB [x, y, z]; cases a <;> cases b
      · exact List.all_eq_true.mp few5_00 _ hm
      · exact List.all_eq_true.mp few5_01 _ hm
      · exact List.all_eq_true.mp few5_10 _ hm
      · exact List.all_eq_true.mp few5_11 _ hm
  · match bs, h with
    | [a, b, c, d, x, y, z], _ =>
      have hm : [x, y, z] ∈ allB 3 := mem_allB [x, y, z]; cases a <;> cases b <;> cases c <;> cases d
      · exact List.all_eq_true.mp few7_0000 _ hm
      · exact List.all_eq_true.mp few7_0001 _ hm
      · exact List.all_eq_true.mp few7_0010 _ hm
      · exact List.all_eq_true.mp few7_0011 _ hm
      · exact List.all_eq_true.mp few7_0100 _ hm
      · exact List.all_eq_true.mp few7_0101 _ hm
      · exact List.all_eq_true.mp few7_0110 _ hm
      · exact List.all_eq_true.mp few7_0111 _ hm
      · exact List.all_eq_true.mp few7_1000 _ hm
      · exact List.all_eq_true.mp few7_1001 _ hm
      · exact List.all_eq_true.mp few7_1010 _ hm
      · exact List.all_eq_true.mp few7_1011 _ hm
      · exact List.all_eq_true.mp few7_1100 _ hm
      · exact List.all_eq_true.mp few7_1101 _ hm
      · exact List.all_eq_true.mp few7_1110 _ hm
      · exact List.all_eq_true.mp few7_1111 _ hm
end L2
end Mine
end
section
open PySem PySem.W PyProof.Rows
namespace Mine
namespace L2
theorem intsOf_inv : ∀ {l : List PV} {r : List Int}, intsOf l = some r -> l = r.map .int
  | [], r, h => by simp [intsOf] at h; subst h; rfl
  | p :: l, r, h => by
    simp only [intsOf] at h; split at h
    · rename_i x y h1 h2; cases h; rw [List.map_cons, <- intsOf_inv h2]; cases p <;> simp [isInt] at h1; subst h1; rfl
    · cases h
theorem spelled_of {bs : List Bool} (h : bs.length = 5 \/ bs.length = 7) : ∃ r, toks 999 (chars bs) = some r /\ FT funs 5 11 [.lst (bs.map mkS)] = some (intL r) := by
  have hs : spellOk bs = true := by
    rcases h with h | h
    · exact List.all_eq_true.mp spell_5 bs (h ▸ mem_allB bs)
    · exact List.all_eq_true.mp spell_7 bs (h ▸ mem_allB bs)
  unfold spellOk at hs; split at hs
  · rename_i r l h1 h2; refine ⟨r, h1, ?_⟩; rw [h2, intsOf_inv (eq_of_beq hs)]; rfl
  · cases hs
theorem fewest_of {bs : List Bool} (h : bs.length = 5 \/ bs.length = 7) : FT funs 5 18 [.lst (bs.map mkS)] = some (.int (finN bs : Int)) := by
  have hs := few_of h; unfold fewOk at hs; split at hs
  · rename_i m hm; rw [hm, eq_of_beq hs]
  · cases hs
section
variable {F : Nat -> List PV -> Option PV} {pe : PEnv}
theorem count_eval {l : List Int} (hl : l.length <= 63) (h0 : lk pe 0 = some (intL l)) : denE F (.ite (.cmp .Lt (.bi .len (.cons (.var 0) .nil)) (.cst (.int 6))) (.cst (.int 5)) (.cst (.int 7))) pe = some (.int ((if l.length < 6 then 5 else 7 : Nat) : Int)) := by
  have b : biF .len [intL l] = some (.int (l.length : Int)) := by
    show (if (l.map PV.int).length <= 100000 then some (PV.int ((l.map PV.int).length : Int)) else none) = _; rw [List.length_map, if_pos (by omega)]
  simp only [denE, denEs, h0, b, c_lt_ii, Option.map_some]
  by_cases h : l.length < 6
  · have : decide ((l.length : Int) < 6) = true := by simp; omega
    rw [this, if_pos h]; rfl
  · have : decide ((l.length : Int) < 6) = false := by simp; omega
    rw [this, if_neg h]; rfl
theorem signtest_eval {M S : PV} {bs : List Bool} {r : List Int} (h11 : lk pe 11 = some (.lst (bs.map mkS))) (h4 : lk pe 4 = some (.lst (bs.map mkS))) (h12 : lk pe 12 = some (intL r)) (h : F 11 [.lst (bs.map mkS)] = some (intL r)) : denE F (.or (.cmp .NotEq (.var 11) (.var 4)) (.cmp .NotEq (.var 12) (.call 11 (.cons (.var 4) .nil)))) pe = some (.bool false) := by
  have ne1 : cmpF .NotEq (.lst (bs.map mkS)) (.lst (bs.map mkS)) = some false := ne_same (by simp [plainP, mkS]) (fun x h => by cases h); have ne2 : cmpF .NotEq (intL r) (intL r) = some false := ne_same (by simp [plainP, intL]) (fun x h => by cases h); simp only [denE, denEs, h11, h4, h12, h, ne1, ne2, Option.map_some]
theorem spans_eval {nums : List Int} (hl : nums.length <= 10) (h1 : lk pe 1 = some (.int (nums.length : Int))) (hs : ∀ v, lk (st pe 37 v) 37 = some v) : denE F (.comp (.tup (.cons (.var 37) (.cons (.bin .Add (.var 37) (.cst (.int 1))) .nil))) 37 (.rng1 (.var 1)) false (.cst .none)) pe = some (.lst ((ts0 nums).map spP)) := by
  rw [comp_rng (m := nums.length) (fun k => spP (leaf nums k)) (by simp only [denE, h1]) (by omega) ?_]
  · unfold ts0; rw [List.map_map]; rfl
  · intro k hk; simp only [denE, denEs, hs, b_add_ii, Option.map_some]; rfl
theorem isnot_eval {x : List Nat} {b : Bool} (h33 : lk pe 33 = some (.str (sx x))) (h34 : lk pe 34 = some (.bool b)) (h : F 9 [.str (sx x)] = some (.bool b)) : denE F (.cmp .IsNot (.call 9 (.cons (.var 33) .nil)) (.var 34)) pe = some (.bool false) := by
  have c : cmpF .IsNot (.bool b) (.bool b) = some false := by
    show some (!(b == b)) = _; rw [beq_self_eq_true]; rfl
  simp only [denE, denEs, h33, h34, h, c, Option.map_some]
theorem four_eval {x y : List Nat} {d : Nat} (hy : y.length <= 1000) (h31 : lk pe 31 = some (.str (sx x))) (h32 : lk pe 32 = some (.str (sx y))) (h17 : lk pe 17 = some (.int (d : Int))) :
    denI F (.val (.tup (.cons (.tup (.cons (.var 31) (.cons (.cmp .Eq (.var 17) (.cst (.int 0))) .nil))) (.cons (.tup (.cons (.var 32) (.cons (.cst (.bool true)) .nil))) (.cons (.tup (.cons (.bin .Add (.var 32) (.cst (.str (")(" : Str)))) (.cons (.cst (.bool false)) .nil))) (.cons (.tup (.cons (.bin .Add (.var 32) (.cst (.str ("\")" : Str)))) (.cons (.cst (.bool false)) .nil))) .nil)))))) pe = some [.tup [.str (sx x), .bool (d == 0)], .tup [.str (sx y), .bool true], .tup [.str (sx (y ++ [41, 40])), .bool false], .tup [.str (sx (y ++ [34, 41])), .bool false]] := by
  have a1 := b_add_sx y [41, 40] (by simp; omega); have a2 := b_add_sx y [34, 41] (by simp; omega); have c : cmpF .Eq (.int (d : Int)) (.int 0) = some (d == 0) := by
    rw [c_eq_ii]; congr 1; rw [Bool.eq_iff_iff]; simp
  rw [show (")(" : Str) = sx [41, 40] from rfl, show ("\")" : Str) = sx [34, 41] from rfl]
  simp only [denI, denE, denEs, h31, h32, h17, a1, a2, c, Option.map_some, itemsF]; rfl
end
theorem math (l : List Int) (hl : l.length <= 63) : FT funs 6 20 [.lst (l.map .int)] = some (.bool true) := by
  rw [ft 5 20 f_law _ rfl]; apply fun_r rfl; show rets (denSs _ f_law.code [some (intL l), none, none, none, none, none, none, none, none, none, none, none, none, none, none, none, none, none, none, none, none, none, none, none, none, none, none, none, none, none, none, none, none, none, none, none, none, none, none, none, none, none, none, none, none, none, none, none]) = _; unfold f_law; refine r_seq (asg (count_eval hl rfl)) ?_; simp only [st]; have hc : (if l.length < 6 then 5 else 7 : Nat) = 5 \/ (if l.length < 6 then 5 else 7 : Nat) = 7 := by split <;> simp
  generalize (if l.length < 6 then 5 else 7 : Nat) = c at *; refine r_seq (asg (p := .tup ([19344, 8193, 7678, 2122, 1777, 641, 300].map .int)) rfl) ?_; simp only [st]; obtain ⟨nums, hn1, hn2, hn3⟩ := numbers_eval (F := FT funs 5) (pl := [19344, 8193, 7678, 2122, 1777, 641, 300]) (l := l) (c := c) (pe := [some (intL l), some (.int (c : Int)), some (.tup ([19344, 8193, 7678, 2122, 1777, 641, 300].map .int)), none, none, none, none, none, none, none, none, none, none, none, none, none, none, none, none, none, none, none, none, none, none, none, none, none, none, none, none, none, none, none, none, none, none, none, none, none, none, none, none, none, none, none, none, none]) hc hl rfl (by simp) rfl rfl rfl (fun v => ⟨rfl, rfl, rfl, rfl, fun u => rfl⟩); refine r_seq (asg hn1) ?_; simp only [st]; subst hn2; have h7 : nums.length <= 7 := by omega
  have h3 : 3 <= nums.length := by omega
  refine r_seq (asg (drawn_eval (nums := nums) rfl (by omega) (fun v => rfl))) ?_; simp only [st]; refine r_seq (asg (shares_eval (nums := nums) rfl (by omega) (fun v => rfl))) ?_; simp only [st]; refine r_seq (asg (lights_eval (n := 4) (nums := nums) rfl rfl rfl (by omega) (fun v => ⟨rfl, rfl, rfl⟩))) ?_; simp only [st]; refine r_seq (asg (colours_eval (n := 4) (nums := nums) rfl rfl rfl (by omega) (fun v => ⟨rfl, rfl, rfl⟩))) ?_; simp only [st]; refine r_seq (asg (white_eval (nums := nums) rfl (by omega))) ?_; simp only [st]; refine r_seq (asg kinds_val) ?_; simp only [st]; refine r_seq (asg (texts_eval (nums := nums) rfl rfl rfl (by omega) hn3 (fun v => ⟨rfl, rfl, rfl⟩))) ?_; simp only [st]; have X := frame (s := spotOf nums) h7 hn3 (spot_lt h3); have hbl : (nums.map bit).length = nums.length := by simp
  rw [ts0_cols]; refine r_seq (asg (marks_eval (n := 3) X (ts0_ok nums) (by rw [ts0_len]; omega) rfl rfl (fun v => ⟨rfl, rfl⟩))) ?_; simp only [st]; rw [<- ts0_marks]; obtain ⟨r, hr1, hr2⟩ := spelled_of (bs := nums.map bit) (by rw [hbl]; exact hc); refine r_seq (asg (signs_eval (n := 4) (bs := nums.map bit) rfl (by rw [hbl]; omega) hr1)) ?_; simp only [st]; refine r_skip (signtest_eval (M := .none) (S := .none) rfl rfl rfl hr2) ?_; refine r_seq (asg (many_eval (bs := nums.map bit) rfl)) ?_; simp only [st]; refine r_seq (asg (points_eval (n := 4) (bs := nums.map bit) (by rw [hbl]; omega) rfl (fun v => rfl))) ?_; simp only [st]; have hpl := pts_le (nums.map bit); rw [hbl] at hpl; refine r_skip (ptest_eval (m := pts (nums.map bit)) (by omega) rfl rfl) ?_; refine r_seq (asg (spot_eval (nums := nums) h3 rfl rfl)) ?_; simp only [st]; refine r_seq (asg (turned_eval (n := 4) (nums := nums) h7 (spot_lt h3) rfl rfl rfl)) ?_; simp only [st]; have hgc : getF (.lst ((ts0 nums).map fun t => lp (pc (nums.map lightOf) (nums.map bit) t))) (.int (spotOf nums : Int)) = some (lp (colOf (nums.getD (spotOf nums) 0))) := by
    rw [<- ts0_cols]; have := spot_lt h3; refine getF_l (by omega) (by omega) ?_; rw [Int.toNat_natCast, List.getElem?_map, List.getElem?_map, List.getElem?_eq_getElem this]; simp [List.getD, this]
  refine r_skip (melttest_eval (n := 2) (nums := nums) X.w0 X.w1 rfl hgc rfl rfl rfl (fun v => ⟨rfl, rfl, rfl, rfl, rfl⟩)) ?_; refine r_seq (asg (p := .int 0) rfl) ?_; simp only [st]; refine r_seq (asg (spans_eval (nums := nums) (by omega) rfl (fun v => rfl))) ?_; simp only [st]; obtain ⟨ts, d, x, hloop, hok, hch, hle, h1, hadj, hfin, hdep⟩ := melt_loop X ⟨some (intL l), some (.int (nums.length : Int)), some (.tup ([19344, 8193, 7678, 2122, 1777, 641, 300].map .int)), some (intL (nums.map share)), some (strL (kdL.map flatP)), some (intL r), some (.int (pts (nums.map bit) : Int)), some (intL (points (pts (nums.map bit)))), some (lp (turnC (nums.getD (spotOf nums) 0)))⟩
    (List.range (nums.length - 1)) (ts0 nums) 0 ⟨none, none, none, none, none, none, none, none, none⟩ (fun i hi => by rw [List.mem_range] at hi; omega) (ts0_ok nums) (ts0_chain nums) (by rw [ts0_len]; omega) (by rw [ts0_len]; omega) (by rw [ts0_len, List.length_range]; omega)
  rw [ts0_dep, Nat.add_zero, Nat.zero_add] at hdep; subst hdep; rw [ts0_mkT] at hfin; have hitems : ∀ pe, lk pe 1 = some (.int (nums.length : Int)) -> denI (FT funs 5) (.rng1 (.bin .Sub (.var 1) (.cst (.int 1)))) pe = some ((List.range (nums.length - 1)).map fun i : Nat => PV.int (i : Int)) := by
    intro pe h; have h' : denE (FT funs 5) (.bin .Sub (.var 1) (.cst (.int 1))) pe = some (.int ((nums.length - 1 : Nat) : Int)) := by
      simp only [denE, h, b_sub_ii]; rw [show ((nums.length - 1 : Nat) : Int) = (nums.length : Int) - 1 by omega]
    exact di_rng h' (by omega)
  simp only [env] at hloop; rw [<- ts0_marks nums] at hloop; refine r_seq (for_s (hitems _ rfl) hloop) ?_; refine r_seq (asg (rest_eval rfl)) ?_; simp only [st]; refine r_seq (asg (due23_eval (n := 4) (bs := nums.map bit) (by omega) hr1 (by rw [hbl]; rfl) rfl rfl)) ?_; simp only [st]; have hfN : finN (ts.map (mkT (nums.map bit))) = ts.length := by unfold finN; rw [hadj]; simp
  rw [hfN] at hfin; refine r_skip (lentest_eval (M := .none) (f := finN (nums.map bit)) rfl (by rw [List.length_map]; exact hfin) (by omega) rfl rfl (fewest_of (by rw [hbl]; exact hc))) ?_; refine r_skip (one_eval (n := 4) (f := finN (nums.map bit)) (m := pts (nums.map bit)) (b := true) rfl rfl rfl ?_) ?_
  · intro hf1; have : ts.length = 1 := by omega
    obtain ⟨t, rfl⟩ := List.length_eq_one_iff.mp this; obtain ⟨c1, c2⟩ := hch; have c2 : t.l = (nums.map bit).length := c2; have hseg : seg (nums.map bit) t = nums.map bit := by
      unfold seg; rw [c1, c2, List.drop_zero, List.take_length]
    have hp := (hok t (by simp)).pts; rw [hseg] at hp; simp only [List.map_cons, List.map_nil]; unfold mkT; rw [hseg]; rcases hp with h | h
    · rw [h]; rfl
    · rw [h]; rfl
  obtain ⟨q1, q2, q3, q4, q5, q6, q7⟩ := forest_ok (by omega) hok hch; refine r_seq (asg (whole_eval (ts := ts) rfl (by omega))) ?_; simp only [st]; refine r_skip (back_eval (bs := nums.map bit) rfl rfl rfl (told_den (n := 3) (by omega) hok hch (by omega))) ?_; obtain ⟨A, B, eAB, hpar, hA, hB⟩ := spot_forest (s := spotOf nums) (by omega) hok hch (Nat.zero_le _) (by rw [hbl]; exact spot_lt h3); have hsl := spot_lt h3; have hflat : flatP (pcsF ts) = flatP A ++ (97 + spotOf nums) :: flatP B := by rw [eAB, flatP_app]; rfl
  have hAok : PcsOk A := fun p hp => q1 p (by rw [eAB]; simp [hp]); have hlenA : (flatP A).length + (flatP B).length + 1 <= 100 := by
    have := congrArg List.length hflat; simp only [List.length_append, List.length_cons] at this; omega
  rw [hflat]; refine r_seq (asg (front_eval (X := flatP A) (Y := flatP B) (s := spotOf nums) (by omega) hA hB (by simp; omega) rfl rfl)) ?_; simp only [st]; have hdl : depF (spotOf nums) ts <= 100 := by
    have h0 := hpar 0; rw [Nat.zero_add] at h0; have key : ∀ (us : List (List Nat)) (o o' : Nat), par o us = some o' -> o' <= o + us.length := by
      intro us
      induction us with
      | nil => intro o o' h; simp [par] at h; omega
      | cons u us ih =>
        intro o o' h; simp only [par] at h; split at h
        · have := ih _ _ h; simp; omega
        · split at h
          · split at h
            · cases h
            · have := ih _ _ h; simp; omega
          · have := ih _ _ h; simp; omega
    have h1 := key _ _ _ h0; have h2 : (uns false (bareP A)).length <= (bareP A).length + 1 := by
      rw [<- esc_snd (bareP A) 0 false, List.length_map]; exact esc_len _ 0 false
    have h3 : (bareP A).length <= (flatP A).length := by
      have : ∀ l : List Pc, (bareP l).length <= (flatP l).length := by
        intro l
        induction l with
        | nil => simp [bareP]
        | cons p l ih =>
          obtain ⟨s, b⟩ := p; cases b
          · simp only [bareP, flatP, List.length_append]; omega
          · simp only [bareP, flatP, List.length_append]; omega
      exact this A
    omega
  refine r_seq (asg (closed_eval (X := flatP A ++ [97 + spotOf nums]) (d := depF (spotOf nums) ts) (by omega) (by simp; omega) rfl rfl)) ?_; simp only [st]; have hlowA : ∀ c ∈ flatP A, c < 128 := by
    intro c hcA; rcases q2 c (by rw [hflat]; simp [hcA]) with h | h <;> omega
  have hp0 := hpar 0; rw [Nat.zero_add] at hp0; obtain ⟨f1, f2, f3, f4⟩ := fronts (n := 3) (A := A) (s := spotOf nums) (d := depF (spotOf nums) ts) (by omega) hAok hp0 (by omega) (by omega) hlowA; refine r_seq (for_s (four_eval (x := flatP A ++ [97 + spotOf nums]) (y := flatP A ++ [97 + spotOf nums] ++ List.replicate (depF (spotOf nums) ts) 41) (d := depF (spotOf nums) ts) (by simp; omega) rfl rfl rfl)
    (for_next rfl (seq_last (ite_f (isnot_eval rfl rfl f1) seq_nil)) (for_next rfl (seq_last (ite_f (isnot_eval rfl rfl f2) seq_nil)) (for_next rfl (seq_last (ite_f (isnot_eval rfl rfl f3) seq_nil)) (for_next rfl (seq_last (ite_f (isnot_eval rfl rfl f4) seq_nil)) for_nil))))) ?_
  exact r_ret rfl
end L2
end Mine
end
section
open PySem PySem.W PyProof.Rows
namespace Mine
def bindOk (pars : List Str) (p : Arguments) : Bool :=
  p.posonlyargs.isEmpty && p.args.map (·.arg) == pars && p.vararg.isNone && p.kwonlyargs.isEmpty && p.kwarg.isNone && nodupB pars
theorem fm_congr {α β : Type} {f g : α -> Option β} : ∀ {l : List α}, (∀ x ∈ l, f x = g x) -> l.filterMap f = l.filterMap g
  | [], _ => rfl
  | a :: l, h => by
    rw [List.filterMap_cons, List.filterMap_cons, h a (by simp), fm_congr fun x hx => h x (by simp [hx])]
theorem sem_pure_bind {α β : Type} (x : α) (f : α -> Sem β) : (Sem.pure x).bind f = f x := rfl
theorem standIn_none : notAStandIn Value.none = Sem.pure () := rfl
theorem zip_lookup : ∀ {pars : List Str} {vs : List Value}, vs.length = pars.length -> nodupB pars = true ->
    ((pars.filter fun n => ((pars.zip vs).lookup n).isNone) = []) /\ (pars.filterMap fun n => ((pars.zip vs).lookup n).map (n, ·)) = pars.zip vs := by
  intro pars vs hl hn; have key : ∀ n ∈ pars, ∃ v, (pars.zip vs).lookup n = some v := by
    clear hn
    induction pars generalizing vs with
    | nil => simp
    | cons p pars ih =>
      cases vs with
      | nil => simp at hl
      | cons v vs =>
        intro n hm; simp only [List.zip_cons_cons, List.lookup_cons]; split
        · exact ⟨_, rfl⟩
        · rename_i hne; rcases List.mem_cons.mp hm with h | h
          · subst h; simp at hne
          · exact ih (by simpa using hl) n h
  refine ⟨?_, ?_⟩
  · rw [List.filter_eq_nil_iff]; intro n hm; obtain ⟨v, hv⟩ := key n hm; simp [hv]
  · clear key
    induction pars generalizing vs with
    | nil => simp
    | cons p pars ih =>
      cases vs with
      | nil => simp at hl
      | cons v vs =>
        simp only [nodupB, Bool.and_eq_true, Bool.not_eq_true', List.contains_eq_mem, decide_eq_false_iff_not] at hn; rw [List.zip_cons_cons, List.filterMap_cons]; simp only [List.lookup_cons, beq_self_eq_true, Option.map_some]; congr 1; have := ih (vs := vs) (by simpa using hl) hn.2; refine Eq.trans ?_ this; refine fm_congr fun n hm => ?_; have : (n == p) = false := by
          rw [beq_eq_false_iff_ne]; intro e; subst e; exact hn.1 hm
        simp only [this]
theorem bind_plain {pars : List Str} {name : Str} {params : Arguments} {body : List Stmt} {sc : Scope} {pm cd doc : Value} {vs : List Value} (hb : bindOk pars params = true) (hv : vs.length = pars.length) :
    bindArgs (Calls.docDef name params body sc pm cd doc) ⟨vs, []⟩ = Pure.pure (pars.zip vs) := by
  obtain ⟨p1, p2, p3, p4, p5, p6, p7⟩ := params; simp only [bindOk, Bool.and_eq_true, List.isEmpty_iff, Option.isNone_iff_eq_none] at hb; obtain ⟨⟨⟨⟨⟨h1, h2⟩, h3⟩, h4⟩, h5⟩, h6⟩ := hb; subst h1 h3 h4 h5; have h2 := eq_of_beq h2; obtain ⟨z1, z2⟩ := zip_lookup hv h6; unfold bindArgs Calls.docDef; simp only [List.map_nil, List.nil_append, h2, List.append_nil, seqItems?]; have hg : ¬ (vs.length > pars.length) := by omega
  simp [hg, hv, z1, z2, pure, bind, sem_pure_bind, standIn_none]
end Mine
end
section
open PySem PySem.W PyProof.Rows PySem.W.X
namespace Mine
def valB : Value -> Value -> Bool
  | .builtin i, .builtin j => i == j
  | .type i, .type j => i == j
  | _, _ => false
theorem valB_eq : ∀ {u v : Value}, valB u v = true -> u = v := by
  intro u v h; unfold valB at h; split at h
  · rw [eq_of_beq h]
  · rw [eq_of_beq h]
  · cases h
def isFlt (b : UInt64) : Option Value -> Bool
  | some (.float c t) => c == b && !(t == 0)
  | _ => false
def EntP (P : Params) : List DictEntry -> List (Str × Int) -> Prop
  | [], [] => True
  | e :: es, (k, n) :: l => (∃ t, e.key = .str k t) /\ e.hash = PyData.keyHash P k /\ (∃ u, e.val = .int n u) /\ EntP P es l
  | _, _ => False
structure TreeFacts (P : Params) (t : KT) (fls : List (Str × UInt64)) (dn : Str) (dl : List (Str × Int)) : Prop where
  stat : ∃ o ep, t.get 2 = some o /\ o.data = .dict #[] ep
  glob : ∃ o es ep, t.get 3 = some o /\ o.data = .dict es ep /\ (fls.all fun x => isFlt x.2 (nsFind es x.1)) = true /\
    ∃ a o' es' ep', nsFind es dn = some (.ref a) /\ (a == sysModules) = false /\ t.get a = some o' /\ o'.ExactDict /\ o'.data = .dict es' ep' /\ EntP P es'.toList dl
section
variable {prog : Program} {w : World}
theorem dict_of_ent {h : Heap} {a : Addr} {o : Obj} {es : Array DictEntry} {ep : Nat} {dl : List (Str × Int)} (ha : (a == sysModules) = false) (ho : h.get? a = some o) (he : o.ExactDict) (hd : o.data = .dict es ep)
    (hn : nodupB (dl.map (·.1)) = true) (hE : EntP w.params es.toList dl) : PlainDictS prog w h a (dl.map fun x => (x.1, SV.i x.2)) := by
  have key : ∀ (es : List DictEntry) (dl : List (Str × Int)), EntP w.params es dl -> ∃ kvs : List (Str × Value), (∀ e ∈ es, ∃ k, (strKind prog w).is k e.key = true /\ e.hash = (strKind prog w).hash k) /\ Pairs (strKind prog w) es kvs /\
      kvs.map (·.1) = dl.map (·.1) /\ KVR kvs (dl.map fun x => (x.1, SV.i x.2)) := by
    intro es
    induction es with
    | nil =>
      intro dl h; cases dl with
      | nil => exact ⟨[], by simp, .nil, rfl, .nil⟩
      | cons x l => cases h
    | cons e es ih =>
      intro dl h; cases dl with
      | nil => cases h
      | cons x l =>
        obtain ⟨k, n⟩ := x; obtain ⟨⟨t, h1⟩, h2, ⟨u, h3⟩, h4⟩ := h; obtain ⟨kvs, q1, q2, q3, q4⟩ := ih l h4; refine ⟨(k, e.val) :: kvs, ?_, .cons (by rw [h1]; exact strKind_is prog w k t) rfl q2, by simp [q3], by rw [h3]; exact .cons (.i n u) q4⟩; intro e' hm; rcases List.mem_cons.mp hm with rfl | hm
        · exact ⟨k, by rw [h1]; exact strKind_is prog w k t, h2⟩
        · exact q1 e' hm
  obtain ⟨kvs, q1, q2, q3, q4⟩ := key es.toList dl hE; refine ⟨ha, kvs, ⟨o, es, ep, ho, he, hd, fun e hm => q1 e (by simpa using hm), q2, ?_⟩, q4⟩; rw [q3]; clear q3 q2 q1 q4 hE key; generalize dl.map (·.1) = l at *
  induction l with
  | nil => exact .nil
  | cons x l ih =>
    simp only [nodupB, Bool.and_eq_true, Bool.not_eq_true', List.contains_eq_mem, decide_eq_false_iff_not] at hn; exact List.nodup_cons.mpr ⟨hn.1, ih hn.2⟩
def freeOk (p : Program) (loose : List Str) (x : Str) : Bool :=
  !startupNames.contains x && !loose.contains x && !((recsOf p).map (·.name)).contains x && !((litsOf p).map (·.1)).contains x && !((clssOf p loose).map (·.name)).contains x && !(x == ("__name__" : Str))
def bltOk (p : Program) (loose : List Str) (x : Str) (v : Value) : Bool := freeOk p loose x && (match bootBuiltins x with | some u => valB u v | none => false)
def glOk (p : Program) (loose : List Str) (names : List Str) (fls : List (Str × UInt64)) (dn : Str) (dl : List (Str × Int)) : Str × G -> Bool
  | (x, .bi b) => bltOk p loose x (biV b)
  | (x, .rng) => bltOk p loose x (.type "range")
  | (x, .enum) => bltOk p loose x (.type "enumerate")
  | (x, .fn k) => names[k]? == some x
  | (x, .gen) => x == ("_iter_escaped_chars" : Str)
  | (x, .cst (.int n)) => (match valOf p x with | some (.int m) => m == n | _ => false)
  | (x, .cst (.flt b)) => fls.contains (x, b)
  | (x, .cst (.dcts l)) => x == dn && decide (l = dl.map fun x => (x.1, SV.i x.2))
  | _ => false
def recOk (p : Program) (GL : List (Str × G)) (nf : Str × FSpec) : Bool := (recsOf p).any fun d => d.name == nf.1 && chkF GL nf.2 d.body d.scope && bindOk nf.2.pars d.params
def genOk (p : Program) (GL : List (Str × G)) : Bool := (recsOf p).any fun d => d.name == ("_iter_escaped_chars" : Str) && chkGen GL d.body d.scope && bindOk [("addr" : Str)] d.params
def nmOf (names : List Str) (k : Nat) : Str := if k = 1000 then ("_iter_escaped_chars" : Str) else names[k]?.getD ""
def faOf (mg : Str -> Option Value) (names : List Str) (k : Nat) : Addr := match mg (nmOf names k) with
  | some (.ref a) => a
  | _ => 0
variable {p : Program} {loose : List Str} {mean : ExcName -> Option Value} {mg mb : Str -> Option Value} {s₁ : Shared} {t : KT} {GL : List (Str × G)} {funs : List FSpec} {names : List Str} {fls : List (Str × UInt64)} {dn : Str} {dl : List (Str × Int)}
theorem faOf_eq {k : Nat} {x : Str} {a : Addr} (h : nmOf names k = x) (hm : mg x = some (.ref a)) : faOf mg names k = a := by
  unfold faOf; rw [h, hm]
theorem bltOk_spec (T : Top p loose mean mg mb s₁.heap) {x : Str} {v : Value} (h : bltOk p loose x v = true) : mg x = none /\ mb x = some v := by
  unfold bltOk freeOk at h; simp only [Bool.and_eq_true, Bool.not_eq_true', List.contains_eq_mem, decide_eq_false_iff_not, beq_eq_false_iff_ne] at h; obtain ⟨⟨⟨⟨⟨⟨h1, h2⟩, h3⟩, h4⟩, h5⟩, h6⟩, h7⟩ := h; refine ⟨T.free x h1 h2 h3 h4 h5, ?_⟩; rw [T.builtins x h6]; split at h7
  · rename_i u e; rw [e, valB_eq h7]
  · cases h7
theorem recOk_spec (T : Top p loose mean mg mb s₁.heap) {x : Str} {f : FSpec} {k : Nat} (hk : nmOf names k = x) (h : recOk p GL (x, f) = true) : Nonempty (FunRec GL s₁.heap (faOf mg names k) f) /\ mg x = some (.ref (faOf mg names k)) := by
  obtain ⟨d, hd, h⟩ := List.any_eq_true.mp h; simp only [Bool.and_eq_true] at h; obtain ⟨⟨h1, h2⟩, h3⟩ := h; have h1 := eq_of_beq h1; obtain ⟨a, o, pm, cd, doc, q1, q2, q3, q4⟩ := T.fn d hd; rw [h1] at q1; have hfa := faOf_eq hk q1; rw [hfa]; exact ⟨⟨⟨d.name, d.params, d.body, d.scope, pm, cd, doc, o, h2, q2, q3, q4, fun vs hv => bind_plain h3 hv⟩⟩, q1⟩
theorem genOk_spec (T : Top p loose mean mg mb s₁.heap) (h : genOk p GL = true) : Nonempty (GenRec GL s₁.heap (faOf mg names 1000)) /\ mg ("_iter_escaped_chars" : Str) = some (.ref (faOf mg names 1000)) := by
  obtain ⟨d, hd, h⟩ := List.any_eq_true.mp h; simp only [Bool.and_eq_true] at h; obtain ⟨⟨h1, h2⟩, h3⟩ := h; have h1 := eq_of_beq h1; obtain ⟨a, o, pm, cd, doc, q1, q2, q3, q4⟩ := T.fn d hd; rw [h1] at q1; have hfa := faOf_eq (names := names) (k := 1000) rfl q1; rw [hfa]; exact ⟨⟨⟨d.name, d.params, d.body, d.scope, pm, cd, doc, o, h2, q2, q3, q4, fun v => bind_plain h3 rfl⟩⟩, q1⟩
theorem glo_of (T : Top p loose mean mg mb s₁.heap) (ZH : KT.Holds s₁.heap 1 0 t) (TF : TreeFacts w.params t fls dn dl) (hnd : nodupB (dl.map (·.1)) = true)
    (c1 : ∀ (k : Nat) x f, names[k]? = some x -> funs[k]? = some f -> recOk p GL (x, f) = true) (hl : names.length = funs.length) (hl2 : names.length <= 1000) (c2 : genOk p GL = true) (c3 : ∀ xg ∈ GL, glOk p loose names fls dn dl xg = true) : Glo prog w s₁.heap GL (faOf mg names) := by
  obtain ⟨o2, ep2, g2, d2⟩ := TF.stat; obtain ⟨o3, es, ep3, g3, d3, hf, a, o', es', ep', n1, n2, n3, n4, n5, n6⟩ := TF.glob; have g2 := kt_at ZH g2; have g3 := kt_at ZH g3; have n3 := kt_at ZH n3; have hmg : ∀ x, mg x = nsFind es x := by
    obtain ⟨o, es₀, ep, e1, e2, _, e4⟩ := T.g; rw [show mainGlobals = 3 from rfl, g3] at e1; cases e1; rw [d3] at e2; cases e2; exact fun x => (e4 x).symm
  refine ⟨?_, T.nolimit, ?_, mg, mb, T.g, T.b, ?_⟩
  · refine ⟨fun _ => none, ⟨o2, #[], ep2, g2, d2, fun e he => by simp at he, fun x => by simp [nsFind, findBy]⟩, rfl⟩
  · exact Nat.lt_trans (by decide) (Heap.lt_size g3)
  · intro x g hx; have hm := mem_lookup hx; have hc := c3 _ hm; have fnAt : ∀ k, names[k]? = some x -> ∃ v, mg x = some v /\ GV prog w s₁.heap (faOf mg names) v (.fn k) := by
      intro k hk; have hlt : k < names.length := (List.getElem?_eq_some_iff.mp hk).1; have hf : funs[k]? = some funs[k] := by simp
      have hnm : nmOf names k = x := by unfold nmOf; rw [if_neg (by omega), hk]; rfl
      obtain ⟨⟨R⟩, q⟩ := recOk_spec T hnm (c1 k x _ hk hf); exact ⟨_, q, rfl, R.o, _, R.at_, R.data⟩
    cases g with
    | bi b => obtain ⟨q1, q2⟩ := bltOk_spec T (v := biV b) hc; exact ⟨_, .inr ⟨q1, q2⟩, rfl⟩
    | rng => obtain ⟨q1, q2⟩ := bltOk_spec T (v := .type "range") hc; exact ⟨_, .inr ⟨q1, q2⟩, rfl⟩
    | enum => obtain ⟨q1, q2⟩ := bltOk_spec T (v := .type "enumerate") hc; exact ⟨_, .inr ⟨q1, q2⟩, rfl⟩
    | fn k => obtain ⟨v, q1, q2⟩ := fnAt k (eq_of_beq hc); exact ⟨v, .inl q1, q2⟩
    | gen =>
      have hx := eq_of_beq (show (x == ("_iter_escaped_chars" : Str)) = true from hc); subst hx; obtain ⟨⟨R⟩, q⟩ := genOk_spec (names := names) T c2; exact ⟨_, .inl q, rfl, R.o, _, R.at_, R.data⟩
    | cst c =>
      cases c with
      | int n =>
        simp only [glOk] at hc; split at hc
        · rename_i m e; have := eq_of_beq hc; subst this; obtain ⟨v, q1, q2⟩ := T.const x _ e; have q2 := q2 s₁.heap; cases q2; exact ⟨_, .inl q1, .int _ _⟩
        · cases hc
      | flt b =>
        simp only [glOk, List.contains_eq_mem, decide_eq_true_eq] at hc; have := List.all_eq_true.mp hf _ hc; simp only [isFlt] at this; split at this
        · rename_i c t e; simp only [Bool.and_eq_true, Bool.not_eq_true', beq_eq_false_iff_ne] at this; obtain ⟨e1, e2⟩ := this; have e1 := eq_of_beq e1; subst e1; exact ⟨_, .inl (by rw [hmg]; exact e), .flt _ _ e2⟩
        · cases this
      | dcts l =>
        simp only [glOk, Bool.and_eq_true, decide_eq_true_eq] at hc; obtain ⟨e1, e2⟩ := hc; have e1 := eq_of_beq e1; subst e1 e2; exact ⟨_, .inl (by rw [hmg]; exact n1), .dcts (fun q => q) (dict_of_ent n2 n3 n4 n5 hnd n6)⟩
      | _ => simp [glOk] at hc
theorem ints_rvs {h : Heap} {N : Addr -> Prop} : ∀ {vs : List Value} {ns : List Int}, IntsAre vs ns -> RVs prog w h N vs (ns.map .int)
  | _, _, .nil => .nil
  | _, _, .cons n t r => .cons (.int n t) (ints_rvs r)
theorem head_close (T : Top p loose mean mg mb s₁.heap) (ZH : KT.Holds s₁.heap 1 0 t) (TF : TreeFacts w.params t fls dn dl) (hnd : nodupB (dl.map (·.1)) = true)
    (c1 : ((names.zip funs).all (recOk p GL)) = true) (hl : names.length = funs.length) (hl2 : names.length <= 1000) (c2 : genOk p GL = true) (c3 : (GL.all (glOk p loose names fls dn dl)) = true)
    (hm : (funs.all fun f => decide (nss f.code <= 15)) = true)
    (hg : s₁.gens = #[]) (htk : 0 < s₁.toks) {k : Nat} {x : Str} {fa a : Addr} (hk : names[k]? = some x) (hmg : mg x = some (.ref fa)) {vs : List Value} {ns : List Int}
    (ho : s₁.heap.get? a = some { cls := .type "list", data := .seq vs.toArray }) (hI : IntsAre vs ns) (hd : FT funs 6 k [.lst (ns.map .int)] = some (.bool true))
    {Q : Value -> Shared -> Prop} {E : Value -> Shared -> Prop} (hQ : ∀ v s', Pure s₁ s' -> v = .bool true -> Q v s') : wpAny (model prog w) callerA (call (.ref fa) [.ref a]) Q E s₁ := by
  have c1' : ∀ (k : Nat) x f, names[k]? = some x -> funs[k]? = some f -> recOk p GL (x, f) = true := by
    intro k x f h1 h2; refine List.all_eq_true.mp c1 _ ?_; refine List.mem_of_getElem? (i := k) ?_; rw [List.getElem?_zip_eq_some]; exact ⟨h1, h2⟩
  have GK := glo_of (prog := prog) T ZH TF hnd c1' hl hl2 c2 (fun xg h => List.all_eq_true.mp c3 xg h); obtain ⟨⟨g⟩, -⟩ := genOk_spec (names := names) T c2; have nmk : ∀ {k : Nat} {x : Str}, names[k]? = some x -> nmOf names k = x := by
    intro k x h; have hlt : k < names.length := (List.getElem?_eq_some_iff.mp h).1; unfold nmOf; rw [if_neg (by omega), h]; rfl
  have hr : ∀ k f, funs[k]? = some f -> Nonempty (FunRec GL s₁.heap (faOf mg names k) f) := by
    intro k f h; have hlt : k < names.length := by rw [hl]; exact (List.getElem?_eq_some_iff.mp h).1
    have h1 : names[k]? = some names[k] := by simp
    exact (recOk_spec T (nmk h1) (c1' k _ f h1 h)).1
  have FK := funOK_table GK g hr (fun f hf => by simpa using List.all_eq_true.mp hm f hf) 6; have hfa := faOf_eq (nmk hk) hmg; rw [<- hfa]; refine FK k callerA s₁ No0 [.ref a] _ _ Q E ⟨rfl, by decide, by decide⟩ ⟨fun _ _ e => e, fun b q => q.elim, Nat.le_refl _, fun b q => q.elim, htk, by rw [hg]; intro g hgm; simp at hgm⟩ (.cons (.lst (fun q => q) ⟨_, ho⟩ (ints_rvs hI)) .nil) hd ?_; intro v s' P r; cases r; exact hQ _ s' P rfl
theorem goodG {c : ClaimW} {cl : Str -> Option Addr} {mean' : ExcName -> Option Value} {args : List WData} {s₁ s' : Shared} (P : Pure s₁ s') (hg : s₁.gens = #[])
    (hr : ∀ cls, c.raises args cls = false) (hp : c.post args (.bool true) args = true) : GoodWG c cl mean' args s₁ (.ok (.ret (.bool true))) s' :=
  ⟨.inl ⟨_, _, [], rfl, hr, ReadsW.bool true, hp, fun _ => ⟨List.nodup_nil, fun _ hm => (nomatch hm)⟩⟩, OldK.of_keep fun b o e => P.step.keep b o (fun q => q) e, P.os, P.bare (by rw [hg]; exact AllBare.empty)⟩
end
end Mine
end
section
open PySem PySem.W PyProof.Rows PySem.W.X PySem.W.ZRun
namespace Mine.L2
def dl : List (Str × Int) := match g_EXACT_TOKEN_TYPES with
  | .dcts l => l.map fun x => (x.1, match x.2 with | .i n => n | _ => 0)
  | _ => []
def fls : List (Str × UInt64) := [("ONE_THIRD", 4599676419421066581), ("ONE_SIXTH", 4595172819793696085), ("TWO_THIRD", 4604180019048437077)]
theorem cm : (funs.all fun f => decide (nss f.code <= 15)) = true := by decide +kernel
theorem cdn : nodupB (dl.map (·.1)) = true := by decide +kernel
set_option maxRecDepth 100000 in
set_option maxHeartbeats 0 in
set_option pp.deepTerms false in
set_option pp.maxSteps 1500 in
theorem main : PySem.Challenge.rw_sw0065_02.Holds := by
  w_on; o_law; z_head; (case hw => w_witness2)
  k_fill
  intro w s₀ s₁ mg mb G y fa o pm cd doc dV kV ho hd hcd hD hmg hg args vals as L hpre hlay hrd hwl hlo
  z_open y L KX ZH ZN ZT
  refine Ground.open G ?_; intro T B D TE TW
  wrow_args hpre hlay hrd hwl hlo
  obtain ⟨hat, hsz⟩ := script_at L; have htk := script_toks L ZT
  rename Heap.IsList _ _ _ => hL
  rename IntsAre _ _ => hI
  rename ¬ _ => hc
  have hob := script_obj L hL; refine head_close (dn := ("EXACT_TOKEN_TYPES" : Str)) (dl := dl) (fls := fls) (k := 20) T ZH ?_ cdn (GL := GL) (names := names) (funs := funs) (by decide +kernel) rfl (by decide) (by decide +kernel) (by decide +kernel) cm hg (Nat.lt_of_lt_of_le (by decide) htk) rfl hmg hob hI (math _ (by omega)) ?_
  · refine ⟨⟨_, _, rfl, rfl⟩, ⟨_, _, _, rfl, rfl, by kernel_rfl, _, _, _, _, rfl, rfl, rfl, ⟨rfl, rfl, rfl⟩, rfl, ?_⟩⟩
    repeat (refine ⟨⟨_, rfl⟩, rfl, ⟨_, rfl⟩, ?_⟩)
    trivial
  · intro v s' P hv; subst hv; refine goodG P hg ?_ ?_
    · intro cls; rfl
    · kernel_rfl
end Mine.L2
end
theorem PySem.Challenge.cw_sw0065_02_holds : PySem.Challenge.rw_sw0065_02.Holds := by
  exact Mine.L2.main
