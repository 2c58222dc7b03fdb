import PyProof.Rows.All
import Wide.FinOn
import OpenK.KEqL
import OpenK.KMake
import OpenK.KOwn
import KE.KTurns
import KE.KxBytes
import KE.KBytesCut
import Open.Tree
import Open.FastLooks
import Lean
import PySem.Challenge.RW_wj0068_01
set_option Elab.async false

-- H0
section
open PySem PySem.W PyProof.Rows PySem.Calls PySem.Spec
set_option maxRecDepth 100000
set_option autoImplicit false
namespace Mine
/-! the top's run, over a tree of objects and by the library's quick twins -/
noncomputable def topRunT (ok : Thread → Bool) (st : SharedT → Thread → Option (SharedT × Thread)) : Nat → SharedT → Thread → Option SharedT
  | 0, _, _ => none
  | n + 1, s, t => cond (through t) (some s) (cond (ok t) ((st s t).bind fun r => topRunT ok st n r.1 r.2) none)
noncomputable def toT : BT → Nat → List Obj → Option (BT × Nat)
  | t, n, [] => some (t, n)
  | t, n, o :: l => cond ((t.ins n o).get n).isSome (toT (t.ins n o) (n + 1) l) none
theorem toT_abs {life : Life} : ∀ {l : List Obj} {t t' : BT} {n n' : Nat}, toT t n l = some (t', n') → absHeap t' n' life = ⟨((absHeap t n life).objs.toList ++ l).toArray, life⟩
  | [], t, t', n, n', h => by
    cases Option.some.inj h
    rw [List.append_nil]
    rfl
  | o :: l, t, t', n, n', h => by
    unfold toT at h
    cases e : ((t.ins n o).get n).isSome with
    | false => rw [e] at h; exact nomatch h
    | true =>
      rw [e] at h
      rw [toT_abs (t := t.ins n o) h, absHeap_ins e]
      show Heap.mk ((((absHeap t n life).objs.push o).toList ++ l).toArray) life = _
      rw [Array.toList_push, List.append_assoc]
      rfl
theorem toT_heap {h : Heap} {t : BT} {n : Nat} (e : toT .nil 0 h.objs.toList = some (t, n)) : absHeap t n h.life = h := toT_abs e
variable {p : Program} {w : World} {n₀ : Nat} {ann : Option Value}
theorem topRunT_spec : ∀ {n : Nat} {s s' : SharedT} {t : Thread}, topRunT (stepOk n₀ ann) (stepT (denote treeTable) p w) n s t = some s' → topRun treeTable p w n₀ ann n s.abs t = some s'.abs
  | 0, _, _, _, h => nomatch h
  | n + 1, s, s', t, h => by
    unfold topRunT at h
    unfold topRun
    cases ht : through t with
    | true =>
      rw [ht] at h
      exact congrArg (fun x => some x.abs) (Option.some.inj h)
    | false =>
      rw [ht] at h
      cases hk : stepOk n₀ ann t with
      | false => rw [hk] at h; exact nomatch h
      | true =>
        rw [hk] at h
        have h : (stepT (denote treeTable) p w s t).bind _ = some s' := h
        obtain ⟨⟨s₂, t₂⟩, h1, h2⟩ := Option.bind_eq_some_iff.mp h
        show (match step (denote treeTable) p w s.abs t with | .go s' t' => _ | .halt _ _ => _) = _
        rw [stepT_spec h1]
        exact topRunT_spec h2
noncomputable def opens (p : Program) (w : World) (N : Nat) : Option Shared := (PySem.W.Fast.tw10274390034422433532 PySem.W.Fast.tw14364793385576792824 (opening p) w N (PySem.W.Fast.tw1435165496053646825 (opening p)).1 (PySem.W.Fast.tw1435165496053646825 (opening p)).2).bind (PySem.W.Fast.tw14289696077712309145 p)
theorem opens_eq {N : Nat} : fencedOpening treeTable p w N = opens p w N := by
  unfold fencedOpening opens
  rw [PySem.W.Fast.te10274390034422433532, PySem.W.Fast.te14364793385576792824, PySem.W.Fast.te1435165496053646825, PySem.W.Fast.te14289696077712309145]
noncomputable def topT (p : Program) (w : World) (N : Nat) (s₀ : Shared) : Option SharedT :=
  (toT .nil 0 s₀.heap.objs.toList).bind fun r => topRunT (PySem.W.Fast.tw6613529449190102663 s₀.heap.objs.size (s₀.heap.nsMap mainGlobals "__annotations__")) (PySem.W.Fast.tw10156331382660048174 (PySem.W.Fast.tw11892475500146522536 PySem.W.Fast.tw14364793385576792824) p w) N ⟨r.1, r.2, s₀.heap.life, s₀.gens, s₀.drawn, s₀.toks, s₀.os⟩ (topStub p)
theorem topT_spec {N : Nat} {s₀ : Shared} {s : SharedT} (h : topT p w N s₀ = some s) : topRun treeTable p w s₀.heap.objs.size (s₀.heap.nsMap mainGlobals "__annotations__") N s₀ (topStub p) = some s.abs := by
  unfold topT at h
  rw [← PySem.W.Fast.te6613529449190102663, ← PySem.W.Fast.te10156331382660048174, ← PySem.W.Fast.te11892475500146522536, ← PySem.W.Fast.te14364793385576792824] at h
  obtain ⟨⟨t, n⟩, h1, h2⟩ := Option.bind_eq_some_iff.mp h
  have := topRunT_spec h2
  rw [SharedT.abs, toT_heap h1] at this
  exact this
noncomputable def looksT (p q : Program) (loose : List Str) (Xt : Shared → Bool) (s₀ s : Shared) :=
  ((s₀.heap.isNs mainGlobals && s₀.gens.size == 0) && (staticsOk (importedModules p.main.body) s₀.heap s.heap && namesBound p s.heap && gensDone s && laidKept s₀.heap s.heap), PySem.W.Fast.tw4187177175401517315 q loose (importedModules p.main.body) Xt true s)
/-- a head by the quick run -/
theorem left_of {q : Program} {loose : List Str} {Xt : Shared → Bool} {α : Type} {Yf : Shared → α} {Ya : World → α} {N : Nat}
    (h : ∀ w, ((opens p w N).bind fun s₀ => (topT p w N s₀).map fun s => looksT p q loose Xt s₀ s.abs) = some (true, openGood q loose)) (k : ∀ w, ((opens p w N).bind fun s₀ => (topT p w N s₀).map fun s => Yf s.abs) = some (Ya w)) : LeftO p q loose Xt Yf Ya N := fun w => by
  obtain ⟨s₀, h1, h2⟩ := Option.bind_eq_some_iff.mp (h w)
  obtain ⟨s, h3, h5⟩ := Option.map_eq_some_iff.mp h2
  obtain ⟨h7, h8⟩ := Prod.mk.inj h5
  obtain ⟨z1, z2⟩ := Bool.and_eq_true_iff.mp h7
  have h6 := k w
  rw [h1] at h6
  have h6 : (topT p w N s₀).map (fun s => Yf s.abs) = some (Ya w) := h6
  rw [h3] at h6
  unfold openEnds
  rw [opens_eq, h1]
  show (topFrom treeTable p w N s₀).map _ = _
  unfold topFrom
  rw [z1]
  show ((topRun treeTable p w s₀.heap.objs.size (s₀.heap.nsMap mainGlobals "__annotations__") N s₀ (topStub p)).bind _).map _ = _
  rw [topT_spec h3]
  show (match staticsOk (importedModules p.main.body) s₀.heap s.abs.heap && namesBound p s.abs.heap && gensDone s.abs && laidKept s₀.heap s.abs.heap with | true => some s.abs | false => none).map _ = _
  rw [z2]
  rw [← PySem.W.Fast.te4187177175401517315] at h8
  exact congrArg some (Prod.ext h8 (Option.some.inj h6))
end Mine
end

-- P0
section
open PySem
set_option maxRecDepth 100000
set_option genSizeOf false
namespace Mine

/-- pure values -/
inductive PV where
  | none
  | bool (b : Bool)
  | int (i : Int)
  | str (x : Str)
  | byt (b : Array UInt8)
  | tup (xs : List PV)
  | lst (xs : List PV)
  | hdr (xs : List (Str × Str))

/-- built-ins -/
inductive BI where
  | sum | len | abs | int | divmod | chr | ord | min | max | sorted | listRange
inductive MI where
  | lower | join | keys | get

set_option genInjectivity false
inductive Tg where
  | one (x : Str) (i : Nat)
  | two (x : Str) (i : Nat) (y : Str) (j : Nat)

mutual
inductive E where
  | lit (c : PV)
  | var (i : Nat)
  | glob (x : Str) (v : Int)
  | bin (op : Operator) (a b : E)
  | neg (a : E)
  | notE (a : E)
  | cmp (op : CmpOp) (a b : E)
  | boolop (op : BoolOp) (es : EL)
  | ite (c a b : E)
  | call (f : Nat) (es : EL)
  | bi (x : BI) (es : EL)
  | meth (m : MI) (o : E) (es : EL)
  | comp (elt : E) (tg : Tg) (src : Src)
  | compIf (elt : E) (tg : Tg) (src : Src) (c : E)
  | idx (a i : E)
  | slLo (a lo : E)
  | slHi (a hi : E)
  | slLH (a lo hi : E)
  | tup (es : EL)
  | list (es : EL)
  | repl (c : Int) (n : E)
  | oidx (i : Nat) (e : E)
  | hattr (o : E)
  | conv (o e : E) (b : Bool)
inductive EL where
  | nil
  | cons (e : E) (r : EL)
inductive Src where
  | exp (e : E)
  | range (es : EL)
  | zip (a b : E)
  | enum (a : E)
end

mutual
inductive S where
  | assign (i : Nat) (e : E)
  | assignOwn (i : Nat) (e : E)
  | assign2 (i j : Nat) (e : E)
  | swap (i j : Nat) (a b : E)
  | aug (i : Nat) (op : Operator) (e : E)
  | sub (i : Nat) (a b : E)
  | append (i : Nat) (e : E)
  | ret (e : E)
  | ife (c : E) (a b : SL)
  | whil (n : Nat) (c : E) (b : SL)
  | for (tg : Tg) (src : Src) (b : SL)
  | freeze (i : Nat)
  | both (i j : Nat) (e : E)
  | hnew (i : Nat)
  | hadd (i : Nat) (a b : E)
  | hfreeze (i : Nat)
inductive SL where
  | nil
  | cons (s : S) (r : SL)
end
set_option genInjectivity true

/-- the pure frame: the slots, and at most one list that the frame owns -/
structure PE where
  vals : List (Option PV)
  own : Option (Nat × List Int) := none
  hown : Option (Nat × List (Str × Str)) := none
/-- no sign that a Headers object refuses -/
noncomputable def okText (x : Str) : Bool := x.cps.all fun c => decide (32 ≤ c) && decide (c ≠ 127)

noncomputable def PE.get (ρ : PE) (i : Nat) : Option PV := ρ.vals[i]?.bind fun v => v
noncomputable def PE.set (ρ : PE) (i : Nat) (v : PV) : PE := { ρ with vals := ρ.vals.set i (some v) }
noncomputable def PE.del (ρ : PE) (i : Nat) : PE := { ρ with vals := ρ.vals.set i none }
/-- the frame with nothing owned -/
noncomputable def PE.bare (ρ : PE) : PE := { ρ with own := none, hown := none }

/-- slot i is not owned -/
noncomputable def PE.free (ρ : PE) (i : Nat) : Bool := ρ.own.all (fun p => p.1 != i) && ρ.hown.all (fun p => p.1 != i)
/-- sizes that are let through: ints below 2^512 in size, texts and lists below 4096 -/
noncomputable def big (a : Int) : Bool := decide (a.natAbs < 2 ^ 512)
noncomputable def room (n : Nat) : Bool := decide (n < 4096)

noncomputable def PV.i? (v : PV) : Option Int := PV.casesOn (motive_1 := fun _ => Option Int) v Option.none (fun _ => Option.none) (fun i => some i) (fun _ => Option.none) (fun _ => Option.none) (fun _ => Option.none) (fun _ => Option.none) (fun _ => Option.none)
noncomputable def PV.s? (v : PV) : Option Str := PV.casesOn (motive_1 := fun _ => Option Str) v Option.none (fun _ => Option.none) (fun _ => Option.none) (fun x => some x) (fun _ => Option.none) (fun _ => Option.none) (fun _ => Option.none) (fun _ => Option.none)
noncomputable def PV.b? (v : PV) : Option (Array UInt8) := PV.casesOn (motive_1 := fun _ => Option (Array UInt8)) v Option.none (fun _ => Option.none) (fun _ => Option.none) (fun _ => Option.none) (fun x => some x) (fun _ => Option.none) (fun _ => Option.none) (fun _ => Option.none)
noncomputable def PV.t? (v : PV) : Option (List PV) := PV.casesOn (motive_1 := fun _ => Option (List PV)) v Option.none (fun _ => Option.none) (fun _ => Option.none) (fun _ => Option.none) (fun _ => Option.none) (fun x => some x) (fun _ => Option.none) (fun _ => Option.none)
noncomputable def PV.l? (v : PV) : Option (List PV) := PV.casesOn (motive_1 := fun _ => Option (List PV)) v Option.none (fun _ => Option.none) (fun _ => Option.none) (fun _ => Option.none) (fun _ => Option.none) (fun _ => Option.none) (fun x => some x) (fun _ => Option.none)
noncomputable def PV.h? (v : PV) : Option (List (Str × Str)) := PV.casesOn (motive_1 := fun _ => Option (List (Str × Str))) v Option.none (fun _ => Option.none) (fun _ => Option.none) (fun _ => Option.none) (fun _ => Option.none) (fun _ => Option.none) (fun _ => Option.none) (fun x => some x)
section
variable {α : Type}
noncomputable def ii (x y : PV) (f : Int → Int → Option α) : Option α := x.i?.bind fun a => y.i?.bind fun b => f a b
noncomputable def arg0 (xs : List PV) (r : Option α) : Option α := List.casesOn (motive := fun _ => Option α) xs r fun _ _ => none
noncomputable def arg1 (xs : List PV) (f : PV → Option α) : Option α := List.casesOn (motive := fun _ => Option α) xs none fun a r => arg0 r (f a)
noncomputable def arg2 (xs : List PV) (f : PV → PV → Option α) : Option α := List.casesOn (motive := fun _ => Option α) xs none fun a r => arg1 r (f a)
noncomputable def arg3 (xs : List PV) (f : PV → PV → PV → Option α) : Option α := List.casesOn (motive := fun _ => Option α) xs none fun a r => arg2 r (f a)
end

noncomputable def intsOf : List PV → Option (List Int)
  | [] => some []
  | v :: r => v.i?.bind fun i => (intsOf r).bind fun l => some (i :: l)
noncomputable def strsOf : List PV → Option (List Str)
  | [] => some []
  | v :: r => v.s?.bind fun i => (strsOf r).bind fun l => some (i :: l)
/-- both lists of ints, of no great length -/
noncomputable def lsls (x y : PV) (f : List Int → List Int → Bool) : Option Bool :=
  x.l?.bind fun a => y.l?.bind fun b => (intsOf a).bind fun k => (intsOf b).bind fun l => if (room k.length && room l.length) = true then some (f k l) else none

noncomputable def addP (x y : PV) : Option PV := PV.casesOn (motive_1 := fun _ => Option PV) x none (fun _ => none)
  (fun a => y.i?.bind fun b => some (.int (a + b)))
  (fun a => y.s?.bind fun b => if room (a.length + b.length) = true then some (.str (a ++ b)) else none)
  (fun a => y.b?.bind fun b => if room (a.size + b.size) = true then some (.byt (a ++ b)) else none) (fun _ => none)
  (fun a => y.l?.bind fun b => if room (a.length + b.length) = true then some (.lst (a ++ b)) else none) (fun _ => none)
noncomputable def binP (op : Operator) (x y : PV) : Option PV := Operator.casesOn (motive := fun _ => Option PV) op (addP x y)
  (ii x y fun a b => some (.int (a - b)))
  (ii x y fun a b => if (big a && big b) = true then some (.int (a * b)) else none) none none
  (ii x y fun a b => if b ≠ 0 then some (.int (Int.fmod a b)) else none) none none
  (ii x y fun a b => if 0 ≤ b then some (.int (Int.fdiv a (2 ^ b.toNat))) else none) none
  (ii x y fun a b => some (.int (Builtin.bitXor a b)))
  (ii x y fun a b => some (.int (Builtin.bitAnd a b)))
  (ii x y fun a b => if b ≠ 0 then if big b = true then some (.int (Int.fdiv a b)) else none else none)

noncomputable def truthP (v : PV) : Option Bool := PV.casesOn (motive_1 := fun _ => Option Bool) v none (fun b => some b) (fun i => some (i != 0))
  (fun x => if room x.length = true then some ((x.length : Int) != 0) else none) (fun _ => none) (fun _ => none)
  (fun xs => if room xs.length = true then some (!xs.isEmpty) else none) (fun _ => none)
noncomputable def trP (o : Option PV) : Option Bool := o.bind truthP

noncomputable def eqP (x y : PV) : Option Bool := PV.casesOn (motive_1 := fun _ => Option Bool) x none (fun _ => none) (fun a => y.i?.bind fun b => some (a == b)) (fun a => y.s?.bind fun b => some (a == b))
  (fun _ => none) (fun _ => none) (fun _ => lsls x y fun a b => decide (a = b)) (fun _ => none)
noncomputable def neP (x y : PV) : Option Bool := PV.casesOn (motive_1 := fun _ => Option Bool) x none (fun _ => none) (fun a => y.i?.bind fun b => some (a != b)) (fun _ => none)
  (fun _ => none) (fun _ => none) (fun _ => lsls x y fun a b => !decide (a = b)) (fun _ => none)
/-- a list of ints, of no great length -/
noncomputable def lsP (xs : List PV) (f : List Int → Bool) : Option Bool := (intsOf xs).bind fun y => if room y.length = true then some (f y) else none
noncomputable def inP (x y : PV) : Option Bool := PV.casesOn (motive_1 := fun _ => Option Bool) x none (fun _ => none)
  (fun a => PV.casesOn (motive_1 := fun _ => Option Bool) y none (fun _ => none) (fun _ => none) (fun _ => none) (fun _ => none) (fun ys => lsP ys fun l => l.any (· == a)) (fun ys => lsP ys fun l => l.any (· == a)) (fun _ => none))
  (fun a => y.l?.bind fun ys => (strsOf ys).bind fun l => if room l.length = true then some (l.any (· == a)) else none)
  (fun _ => none) (fun _ => none) (fun _ => none) (fun _ => none)
noncomputable def cmpP (op : CmpOp) (x y : PV) : Option Bool := CmpOp.casesOn (motive := fun _ => Option Bool) op (eqP x y) (neP x y)
  (ii x y fun a b => some (decide (a < b))) none (ii x y fun a b => some (decide (b < a))) (ii x y fun a b => some (decide (b ≤ a))) none none (inP x y)
  (x.i?.bind fun a => y.l?.bind fun ys => lsP ys fun l => !l.any (· == a))

noncomputable def idxP (v : PV) (i : Int) : Option PV := PV.casesOn (motive_1 := fun _ => Option PV) v none (fun _ => none) (fun _ => none)
  (fun x => if -4096 ≤ i ∧ i < 4096 then ((seqIndex? i x.length).bind (x.cps[·]?)).bind (fun c => some (.str ⟨#[c]⟩)) else none)
  (fun b => if -4096 ≤ i ∧ i < 4096 then ((seqIndex? i b.size).bind (b[·]?)).bind (fun c => some (.int c.toNat)) else none)
  (fun xs => if 0 ≤ i ∧ i < 4096 then xs[i.toNat]? else none) (fun xs => if 0 ≤ i ∧ i < 4096 then xs[i.toNat]? else none) (fun _ => none)

/-- a slice -/
noncomputable def cutP {α : Type} (lo hi : Option Int) (l : List α) : List α :=
  (l.drop (lo.elim 0 (clipAt l.length))).take (hi.elim l.length (clipAt l.length) - lo.elim 0 (clipAt l.length))
noncomputable def slP (v : PV) (lo hi : Option Int) : Option PV := PV.casesOn (motive_1 := fun _ => Option PV) v none (fun _ => none) (fun _ => none)
  (fun x => if room x.length = true then some (.str ⟨(cutP lo hi x.cps.toList).toArray⟩) else none)
  (fun x => if room x.size = true then some (.byt (cutP lo hi x.toList).toArray) else none) (fun _ => none)
  (fun xs => if room xs.length = true then some (.lst (cutP lo hi xs)) else none) (fun _ => none)
/-- a bound written as a value -/
noncomputable def bndP (v : PV) : Option (Option Int) := PV.casesOn (motive_1 := fun _ => Option (Option Int)) v (some none) (fun _ => none) (fun i => some (some i)) (fun _ => none) (fun _ => none) (fun _ => none) (fun _ => none) (fun _ => none)

noncomputable def lexLt (a b : Int × Int) : Bool := decide (a.1 < b.1) || (a.1 == b.1 && decide (a.2 < b.2))
noncomputable def pairsOf : List PV → Option (List (Int × Int))
  | [] => some []
  | v :: r => v.t?.bind fun xs => arg2 xs fun x y => ii x y fun i j => (pairsOf r).bind fun l => some ((i, j) :: l)
noncomputable def maxPairs : Int × Int → List (Int × Int) → Int × Int
  | m, [] => m
  | m, x :: r => maxPairs (if lexLt m x then x else m) r

noncomputable def insertP (x : Int) : List Int → List Int
  | [] => [x]
  | y :: r => if x < y then x :: y :: r else y :: insertP x r
noncomputable def sortP : List Int → List Int
  | [] => []
  | x :: r => insertP x (sortP r)

/-- the ints of range(a, b, c) -/
noncomputable def rangeP (a b c : Int) : List Int := (List.range (Builtin.Range.rangeSize a b c).toNat).map fun (i : Nat) => a + (i : Int) * c
noncomputable def range1 (b : PV) : Option (List Int) := b.i?.bind fun b => if -4096 ≤ b ∧ b < 4096 then some (rangeP 0 b 1) else none
noncomputable def range3 (a b c : PV) : Option (List Int) := ii a b fun a b => c.i?.bind fun c => if 0 ≤ a ∧ a < 4096 ∧ 0 ≤ b ∧ b < 4096 ∧ 0 < c ∧ c < 4096 then some (rangeP a b c) else none
noncomputable def rangeOf (xs : List PV) : Option (List Int) := List.casesOn (motive := fun _ => Option (List Int)) xs none fun a r => List.casesOn (motive := fun _ => Option (List Int)) r (range1 a) fun _ _ => arg2 r (range3 a)

noncomputable def biP (x : BI) (xs : List PV) : Option PV := BI.casesOn (motive := fun _ => Option PV) x
  (arg1 xs fun v => v.l?.bind fun xs => (intsOf xs).bind fun l => if room l.length = true then some (.int l.sum) else none)
  (arg1 xs fun v => PV.casesOn (motive_1 := fun _ => Option PV) v none (fun _ => none) (fun _ => none) (fun x => if room x.length = true then some (.int x.length) else none) (fun _ => none) (fun _ => none)
    (fun xs => if room xs.length = true then some (.int xs.length) else none) (fun _ => none))
  (arg1 xs fun v => v.i?.bind fun a => some (.int (if a < 0 then -a else a)))
  (arg1 xs fun v => v.i?.bind fun a => some (.int a))
  (arg2 xs fun x y => ii x y fun a b => if b ≠ 0 then if big b = true then some (.tup [.int (Int.fdiv a b), .int (Int.fmod a b)]) else none else none)
  (arg1 xs fun v => v.i?.bind fun a => if 0 ≤ a ∧ a ≤ 1114111 then some (.str ⟨#[a.toNat]⟩) else none)
  (arg1 xs fun v => v.s?.bind fun x => if x.length = 1 then some (.int (x.cps.getD 0 0 : Nat)) else none)
  (arg2 xs fun x y => ii x y fun a b => some (.int (if b < a then b else a)))
  (List.casesOn (motive := fun _ => Option PV) xs none fun v r => List.casesOn (motive := fun _ => Option PV) r
    (v.l?.bind fun xs => (pairsOf xs).bind fun l => List.casesOn (motive := fun _ => Option PV) l none fun p r => if room (p :: r).length = true then some (.tup [.int (maxPairs p r).1, .int (maxPairs p r).2]) else none)
    (fun _ _ => arg1 r fun y => ii v y fun a b => some (.int (if a < b then b else a))))
  (arg1 xs fun v => v.l?.bind fun xs => (intsOf xs).bind fun l => if l.length < 64 then some (.lst ((sortP l).map .int)) else none)
  ((rangeOf xs).bind fun l => some (.lst (l.map .int)))

/-- the def that a method of a Headers object is -/
noncomputable def hfid (m : MI) : Nat := MI.casesOn (motive := fun _ => Nat) m 99 99 23 24
noncomputable def methP (m : MI) (o : PV) (xs : List PV) : Option PV := MI.casesOn (motive := fun _ => Option PV) m
  (o.s?.bind fun x => arg0 xs (if room (Txt.lower x).length = true then some (.str (Txt.lower x)) else none))
  (o.s?.bind fun x => arg1 xs fun v => v.l?.bind fun ys => (strsOf ys).bind fun l => if JoinOk x l = true then some (.str (Txt.join x l)) else none) none none

noncomputable def bindT (tg : Tg) (v : PV) (ρ : PE) : Option PE := Tg.casesOn (motive := fun _ => Option PE) tg
  (fun _ i => if ρ.free i = true then some (ρ.set i v) else none)
  (fun _ i _ j => v.t?.bind fun xs => arg2 xs fun a b => if (ρ.free i && ρ.free j) = true then some ((ρ.set i a).set j b) else none)

noncomputable def compGo (f : PV → Option (Option PV)) : List PV → Option (List PV)
  | [] => some []
  | x :: r => (f x).bind fun o => (compGo f r).bind fun ys => some (Option.casesOn (motive := fun _ => List PV) o ys fun y => y :: ys)

noncomputable def zipP : List PV → List PV → List PV
  | [], _ => []
  | a :: x, y => List.casesOn (motive := fun _ => List PV) y [] fun b y => .tup [a, b] :: zipP x y
noncomputable def enumP (n : Nat) : List PV → List PV
  | [] => []
  | a :: r => .tup [.int n, a] :: enumP (n + 1) r

/-- what a source walks over -/
noncomputable def itemsP (v : PV) : Option (List PV) := PV.casesOn (motive_1 := fun _ => Option (List PV)) v none (fun _ => none) (fun _ => none)
  (fun x => if room x.length = true then some (x.cps.toList.map fun c => .str ⟨#[c]⟩) else none)
  (fun b => if room b.size = true then some (b.toList.map fun c => .int c.toNat) else none)
  (fun xs => if room xs.length = true then some xs else none) (fun xs => if room xs.length = true then some xs else none) (fun _ => none)

mutual
noncomputable def ev (Γ : Nat → List PV → Option PV) : E → PE → Option PV
  | .lit c, _ => some c
  | .var i, ρ => ρ.get i
  | .glob _ v, _ => some (.int v)
  | .bin op a b, ρ => (ev Γ a ρ).bind fun x => (ev Γ b ρ).bind fun y => binP op x y
  | .neg a, ρ => (ev Γ a ρ).bind fun x => x.i?.bind fun i => some (.int (-i))
  | .notE a, ρ => (trP (ev Γ a ρ)).bind fun b => some (.bool (!b))
  | .cmp op a b, ρ => (ev Γ a ρ).bind fun x => (ev Γ b ρ).bind fun y => (cmpP op x y).bind fun b => some (.bool b)
  | .boolop op es, ρ => evB Γ op es ρ
  | .ite c a b, ρ => (trP (ev Γ c ρ)).bind fun t => cond t (ev Γ a ρ) (ev Γ b ρ)
  | .call f es, ρ => (evL Γ es ρ).bind fun xs => Γ f xs
  | .bi x es, ρ => (evL Γ es ρ).bind fun xs => biP x xs
  | .meth m o es, ρ => (ev Γ o ρ).bind fun v => (evL Γ es ρ).bind fun xs => Option.casesOn (motive := fun _ => Option PV) v.h? (methP m v xs) fun hs => Γ (hfid m) (.hdr hs :: xs)
  | .comp elt tg src, ρ => (evS Γ src ρ).bind fun items => (compGo (fun x => (bindT tg x ρ.bare).bind fun ρ' => (ev Γ elt ρ').bind fun y => some (some y)) items).bind fun ys => some (.lst ys)
  | .compIf elt tg src c, ρ => (evS Γ src ρ).bind fun items => (compGo (fun x => (bindT tg x ρ.bare).bind fun ρ' => (trP (ev Γ c ρ')).bind fun t => cond t ((ev Γ elt ρ').bind fun y => some (some y)) (some none)) items).bind fun ys => some (.lst ys)
  | .idx a i, ρ => (ev Γ a ρ).bind fun x => (ev Γ i ρ).bind fun k => k.i?.bind fun k => idxP x k
  | .slLo a lo, ρ => (ev Γ a ρ).bind fun x => (ev Γ lo ρ).bind fun k => k.i?.bind fun k => slP x (some k) none
  | .slHi a hi, ρ => (ev Γ a ρ).bind fun x => (ev Γ hi ρ).bind fun y => (bndP y).bind fun k => slP x none k
  | .slLH a lo hi, ρ => (ev Γ a ρ).bind fun x => (ev Γ lo ρ).bind fun k => k.i?.bind fun k => (ev Γ hi ρ).bind fun m => m.i?.bind fun m => slP x (some k) (some m)
  | .tup es, ρ => (evL Γ es ρ).bind fun xs => some (.tup xs)
  | .list es, ρ => (evL Γ es ρ).bind fun xs => some (.lst xs)
  | .repl c n, ρ => (ev Γ n ρ).bind fun k => k.i?.bind fun k => if 0 ≤ k ∧ k < 4096 then some (.lst (List.replicate k.toNat (.int c))) else none
  | .oidx i e, ρ => ρ.own.bind fun o => if i = o.1 then (ev Γ e ρ).bind fun k => k.i?.bind fun k => if 0 ≤ k ∧ k < 4096 then o.2[k.toNat]?.bind fun x => some (.int x) else none else none
  | .hattr o, ρ => (ev Γ o ρ).bind fun v => v.h?.bind fun xs => if room xs.length = true then some (.lst (xs.map fun p => .tup [.str p.1, .str p.2])) else none
  | .conv o e _, ρ => (ev Γ o ρ).bind fun v => v.h?.bind fun xs => (ev Γ e ρ).bind fun y => y.s?.bind fun x => Γ 25 [.hdr xs, .str x]
noncomputable def evB (Γ : Nat → List PV → Option PV) (op : BoolOp) : EL → PE → Option PV
  | .nil, _ => none
  | .cons e r, ρ => EL.casesOn (motive_2 := fun _ => Option PV) r (ev Γ e ρ) fun _ _ => (ev Γ e ρ).bind fun v => (truthP v).bind fun t => BoolOp.casesOn (motive := fun _ => Option PV) op (cond t (evB Γ op r ρ) (some v)) (cond t (some v) (evB Γ op r ρ))
noncomputable def evL (Γ : Nat → List PV → Option PV) : EL → PE → Option (List PV)
  | .nil, _ => some []
  | .cons e r, ρ => (ev Γ e ρ).bind fun v => (evL Γ r ρ).bind fun vs => some (v :: vs)
noncomputable def evS (Γ : Nat → List PV → Option PV) : Src → PE → Option (List PV)
  | .exp e, ρ => (ev Γ e ρ).bind itemsP
  | .range es, ρ => (evL Γ es ρ).bind fun xs => (rangeOf xs).bind fun l => some (l.map .int)
  | .zip a b, ρ => (ev Γ a ρ).bind fun x => x.l?.bind fun x => (ev Γ b ρ).bind fun y => y.l?.bind fun y => if (room x.length && room y.length) = true then some (zipP x y) else none
  | .enum a, ρ => (ev Γ a ρ).bind fun x => x.l?.bind fun x => if room x.length = true then some (enumP 0 x) else none
end

noncomputable abbrev Out := PE × Option PV
/-- goes on where no value is given back -/
noncomputable def after (f : PE → Option Out) (o : Out) : Option Out := Option.casesOn (motive := fun _ => Option Out) o.2 (f o.1) fun v => some (o.1, some v)
noncomputable def whileGo (c : PE → Option Bool) (b : PE → Option Out) : Nat → PE → Option Out
  | 0, _ => none
  | n + 1, ρ => (c ρ).bind fun t => cond t ((b ρ).bind (after (whileGo c b n))) (some (ρ, none))
noncomputable def forGo (tg : Tg) (b : PE → Option Out) : List PV → PE → Option Out
  | [], ρ => some (ρ, none)
  | x :: r, ρ => (bindT tg x ρ).bind fun ρ₁ => (b ρ₁).bind (after (forGo tg b r))
/-- one slot set -/
noncomputable def put (i : Nat) (v : PV) (ρ : PE) : Option Out := if ρ.free i = true then some (ρ.set i v, none) else none
noncomputable def put2 (i j : Nat) (v u : PV) (ρ : PE) : Option Out := if (ρ.free i && ρ.free j) = true then some ((ρ.set i v).set j u, none) else none
/-- nothing is owned -/
noncomputable def ownless (ρ : PE) (x : Option Out) : Option Out := Option.casesOn (motive := fun _ => Option Out) ρ.own (Option.casesOn (motive := fun _ => Option Out) ρ.hown x fun _ => none) fun _ => none

mutual
noncomputable def ex (Γ : Nat → List PV → Option PV) : S → PE → Option Out
  | .assign i e, ρ => (ev Γ e ρ).bind fun v => put i v ρ
  | .assignOwn i e, ρ => ownless ρ ((ev Γ e ρ).bind fun v => v.l?.bind fun xs => (intsOf xs).bind fun l => some ({ (ρ.del i) with own := some (i, l) }, none))
  | .assign2 i j e, ρ => (ev Γ e ρ).bind fun v => v.t?.bind fun xs => arg2 xs fun a b => put2 i j a b ρ
  | .swap i j a b, ρ => (ev Γ a ρ).bind fun x => (ev Γ b ρ).bind fun y => put2 j i y x ρ
  | .aug i op e, ρ => (ρ.get i).bind fun x => (ev Γ e ρ).bind fun y => ii x y fun x y => Operator.casesOn (motive := fun _ => Option Out) op (put i (.int (x + y)) ρ) (put i (.int (x - y)) ρ) none none none none none none none none none none none
  | .sub i a b, ρ => (ev Γ b ρ).bind fun v => v.i?.bind fun v => ρ.own.bind fun o => if i = o.1 then (ev Γ a ρ).bind fun k => k.i?.bind fun k => if 0 ≤ k ∧ k.toNat < o.2.length ∧ room o.2.length = true then some ({ ρ with own := some (o.1, o.2.set k.toNat v) }, none) else none else none
  | .append i e, ρ => (ev Γ e ρ).bind fun v => v.i?.bind fun v => ρ.own.bind fun o => if i = o.1 ∧ room o.2.length = true then some ({ ρ with own := some (o.1, o.2 ++ [v]) }, none) else none
  | .ret e, ρ => (ev Γ e ρ).bind fun v => some (ρ, some v)
  | .ife c a b, ρ => (trP (ev Γ c ρ)).bind fun t => cond t (exs Γ a ρ) (exs Γ b ρ)
  | .whil n c b, ρ => whileGo (fun ρ => trP (ev Γ c ρ)) (fun ρ => exs Γ b ρ) n ρ
  | .for tg src b, ρ => (evS Γ src ρ).bind fun items => forGo tg (fun ρ => exs Γ b ρ) items ρ
  | .freeze i, ρ => ρ.own.bind fun o => if i = o.1 ∧ ρ.hown.isNone = true then some ({ (ρ.set i (.lst (o.2.map .int))) with own := none }, none) else none
  | .both i j e, ρ => (ev Γ e ρ).bind fun v => put2 i j v v ρ
  | .hnew i, ρ => ownless ρ (if (Γ 27 []).isSome = true then some ({ (ρ.del i) with hown := some (i, []) }, none) else none)
  | .hadd i a b, ρ => (ev Γ a ρ).bind fun x => x.s?.bind fun x => (ev Γ b ρ).bind fun y => y.s?.bind fun y => ρ.hown.bind fun o => if i = o.1 ∧ room o.2.length = true ∧ (Γ 26 [.str x, .str y]).isSome = true then some ({ ρ with hown := some (o.1, o.2 ++ [(x, y)]) }, none) else none
  | .hfreeze i, ρ => ρ.hown.bind fun o => if i = o.1 ∧ ρ.own.isNone = true then some ({ (ρ.set i (.hdr o.2)) with hown := none }, none) else none
noncomputable def exs (Γ : Nat → List PV → Option PV) : SL → PE → Option Out
  | .nil, ρ => some (ρ, none)
  | .cons s r, ρ => (ex Γ s ρ).bind (after (fun ρ' => exs Γ r ρ'))
end

/-- a def: its parameters' slots are the first ones -/
structure Fn where
  n : Nat
  slots : Nat
  body : SL
noncomputable def run (Γ : Nat → List PV → Option PV) (f : Fn) (args : List PV) : Option PV :=
  if args.length = f.n then (exs Γ f.body { vals := args.map some ++ List.replicate (f.slots - f.n) none }).bind (·.2) else none
end Mine
end

-- P1
section
open PySem
set_option maxRecDepth 100000
namespace Mine

noncomputable def p_mul_body : SL := (.cons (.ret (.bin .Mult (.var 0) (.var 1)))
    .nil)
noncomputable def p_mul : Fn := ⟨2, 2, p_mul_body⟩
noncomputable def p_mul_names : List (Str × Nat) := [((Str.ofString "a"), 0), ((Str.ofString "b"), 1)]

noncomputable def p_neg_body : SL := (.cons (.ret (.neg (.var 0)))
    .nil)
noncomputable def p_neg : Fn := ⟨1, 1, p_neg_body⟩
noncomputable def p_neg_names : List (Str × Nat) := [((Str.ofString "a"), 0)]

noncomputable def p_sub_body : SL := (.cons (.ret (.bin .Sub (.var 0) (.var 1)))
    .nil)
noncomputable def p_sub : Fn := ⟨2, 2, p_sub_body⟩
noncomputable def p_sub_names : List (Str × Nat) := [((Str.ofString "a"), 0), ((Str.ofString "b"), 1)]

noncomputable def p_xor_body : SL := (.cons (.ret (.bin .BitXor (.var 0) (.var 1)))
    .nil)
noncomputable def p_xor : Fn := ⟨2, 2, p_xor_body⟩
noncomputable def p_xor_names : List (Str × Nat) := [((Str.ofString "a"), 0), ((Str.ofString "b"), 1)]

noncomputable def p_contains_body : SL := (.cons (.ret (.cmp .In (.var 1) (.var 0)))
    .nil)
noncomputable def p_contains : Fn := ⟨2, 2, p_contains_body⟩
noncomputable def p_contains_names : List (Str × Nat) := [((Str.ofString "a"), 0), ((Str.ofString "b"), 1)]

noncomputable def p_Int2AP_body : SL := (.cons (.assign 1 (.lit (.byt #[])))
    (.cons (.assign 2 (.lit (.byt #[65, 66, 67, 68, 69, 70, 71, 72, 73, 74, 75, 76, 77, 78, 79, 80])))
    (.cons (.assign 0 (.bi .int (.cons (.bi .abs (.cons (.var 0) .nil)) .nil)))
    (.cons (.whil 400 (.var 0)
   (.cons (.assign2 0 3 (.bi .divmod (.cons (.var 0) (.cons (.lit (.int 16)) .nil))))
    (.cons (.assign 1 (.bin .Add (.slLH (.var 2) (.var 3) (.bin .Add (.var 3) (.lit (.int 1)))) (.var 1)))
    .nil)))
    (.cons (.ret (.var 1))
    .nil)))))
noncomputable def p_Int2AP : Fn := ⟨1, 4, p_Int2AP_body⟩
noncomputable def p_Int2AP_names : List (Str × Nat) := [((Str.ofString "num"), 0), ((Str.ofString "val"), 1), ((Str.ofString "AP"), 2), ((Str.ofString "mod"), 3)]

noncomputable def p_substitution_cost_body : SL := (.cons (.ife (.cmp .Eq (.var 0) (.var 1))
   (.cons (.ret (.lit (.int 0)))
    .nil)
   .nil)
    (.cons (.ife (.cmp .Eq (.meth .lower (.var 0) .nil) (.meth .lower (.var 1) .nil))
   (.cons (.ret (.glob (Str.ofString "_CASE_COST") 1))
    .nil)
   .nil)
    (.cons (.ret (.glob (Str.ofString "_MOVE_COST") 2))
    .nil)))
noncomputable def p_substitution_cost : Fn := ⟨2, 2, p_substitution_cost_body⟩
noncomputable def p_substitution_cost_names : List (Str × Nat) := [((Str.ofString "ch_a"), 0), ((Str.ofString "ch_b"), 1)]

noncomputable def p_levenshtein_distance_body : SL := (.cons (.ife (.cmp .Eq (.var 0) (.var 1))
   (.cons (.ret (.lit (.int 0)))
    .nil)
   .nil)
    (.cons (.assign 3 (.lit (.int 0)))
    (.cons (.whil 50 (.boolop .And (.cons (.slLo (.var 0) (.var 3)) (.cons (.slLo (.var 1) (.var 3)) (.cons (.cmp .Eq (.idx (.var 0) (.var 3)) (.idx (.var 1) (.var 3))) .nil))))
   (.cons (.aug 3 .Add (.lit (.int 1)))
    .nil))
    (.cons (.assign 0 (.slLo (.var 0) (.var 3)))
    (.cons (.assign 1 (.slLo (.var 1) (.var 3)))
    (.cons (.assign 4 (.lit (.int 0)))
    (.cons (.whil 50 (.boolop .And (.cons (.slHi (.var 0) (.boolop .Or (.cons (.var 4) (.cons (.lit .none) .nil)))) (.cons (.slHi (.var 1) (.boolop .Or (.cons (.var 4) (.cons (.lit .none) .nil)))) (.cons (.cmp .Eq (.idx (.var 0) (.bin .Sub (.var 4) (.lit (.int 1)))) (.idx (.var 1) (.bin .Sub (.var 4) (.lit (.int 1))))) .nil))))
   (.cons (.aug 4 .Sub (.lit (.int 1)))
    .nil))
    (.cons (.assign 0 (.slHi (.var 0) (.boolop .Or (.cons (.var 4) (.cons (.lit .none) .nil)))))
    (.cons (.assign 1 (.slHi (.var 1) (.boolop .Or (.cons (.var 4) (.cons (.lit .none) .nil)))))
    (.cons (.ife (.boolop .Or (.cons (.notE (.var 0)) (.cons (.notE (.var 1)) .nil)))
   (.cons (.ret (.bin .Mult (.glob (Str.ofString "_MOVE_COST") 2) (.bin .Add (.bi .len (.cons (.var 0) .nil)) (.bi .len (.cons (.var 1) .nil)))))
    .nil)
   .nil)
    (.cons (.ife (.boolop .Or (.cons (.cmp .Gt (.bi .len (.cons (.var 0) .nil)) (.glob (Str.ofString "_MAX_STRING_SIZE") 40)) (.cons (.cmp .Gt (.bi .len (.cons (.var 1) .nil)) (.glob (Str.ofString "_MAX_STRING_SIZE") 40)) .nil)))
   (.cons (.ret (.bin .Add (.var 2) (.lit (.int 1))))
    .nil)
   .nil)
    (.cons (.ife (.cmp .Lt (.bi .len (.cons (.var 1) .nil)) (.bi .len (.cons (.var 0) .nil)))
   (.cons (.swap 0 1 (.var 1) (.var 0))
    .nil)
   .nil)
    (.cons (.ife (.cmp .Gt (.bin .Mult (.bin .Sub (.bi .len (.cons (.var 1) .nil)) (.bi .len (.cons (.var 0) .nil))) (.glob (Str.ofString "_MOVE_COST") 2)) (.var 2))
   (.cons (.ret (.bin .Add (.var 2) (.lit (.int 1))))
    .nil)
   .nil)
    (.cons (.assignOwn 5 (.bi .listRange (.cons (.glob (Str.ofString "_MOVE_COST") 2) (.cons (.bin .Mult (.glob (Str.ofString "_MOVE_COST") 2) (.bin .Add (.bi .len (.cons (.var 0) .nil)) (.lit (.int 1)))) (.cons (.glob (Str.ofString "_MOVE_COST") 2) .nil)))))
    (.cons (.assign 6 (.lit (.int 0)))
    (.cons (.for (.one (Str.ofString "bindex") 7) (.range (.cons (.bi .len (.cons (.var 1) .nil)) .nil))
   (.cons (.assign 8 (.idx (.var 1) (.var 7)))
    (.cons (.both 9 6 (.bin .Mult (.var 7) (.glob (Str.ofString "_MOVE_COST") 2)))
    (.cons (.assign 10 (.lit (.int 9223372036854775807)))
    (.cons (.for (.one (Str.ofString "index") 11) (.range (.cons (.bi .len (.cons (.var 0) .nil)) .nil))
   (.cons (.assign 12 (.bin .Add (.var 9) (.call 6 (.cons (.var 8) (.cons (.idx (.var 0) (.var 11)) .nil)))))
    (.cons (.assign 9 (.oidx 5 (.var 11)))
    (.cons (.assign 13 (.bin .Add (.bi .min (.cons (.var 6) (.cons (.var 9) .nil))) (.glob (Str.ofString "_MOVE_COST") 2)))
    (.cons (.assign 6 (.bi .min (.cons (.var 13) (.cons (.var 12) .nil))))
    (.cons (.sub 5 (.var 11) (.var 6))
    (.cons (.ife (.cmp .Lt (.var 6) (.var 10))
   (.cons (.assign 10 (.var 6))
    .nil)
   .nil)
    .nil)))))))
    (.cons (.ife (.cmp .Gt (.var 10) (.var 2))
   (.cons (.ret (.bin .Add (.var 2) (.lit (.int 1))))
    .nil)
   .nil)
    .nil))))))
    (.cons (.ret (.var 6))
    .nil)))))))))))))))))
noncomputable def p_levenshtein_distance : Fn := ⟨3, 14, p_levenshtein_distance_body⟩
noncomputable def p_levenshtein_distance_names : List (Str × Nat) := [((Str.ofString "a"), 0), ((Str.ofString "b"), 1), ((Str.ofString "max_cost"), 2), ((Str.ofString "pre"), 3), ((Str.ofString "post"), 4), ((Str.ofString "row"), 5), ((Str.ofString "result"), 6), ((Str.ofString "bindex"), 7), ((Str.ofString "bchar"), 8), ((Str.ofString "distance"), 9), ((Str.ofString "minimum"), 10), ((Str.ofString "index"), 11), ((Str.ofString "substitute"), 12), ((Str.ofString "insert_delete"), 13)]

noncomputable def p_law_sign_body : SL := (.cons (.ret (.idx (.tup (.cons (.lit (.int 1)) (.cons (.neg (.lit (.int 1))) (.cons (.neg (.lit (.int 1))) (.cons (.lit (.int 1)) (.cons (.neg (.lit (.int 1))) (.cons (.lit (.int 1)) (.cons (.lit (.int 1)) (.cons (.neg (.lit (.int 1))) (.cons (.neg (.lit (.int 1))) (.cons (.lit (.int 1)) (.cons (.lit (.int 1)) (.cons (.neg (.lit (.int 1))) (.cons (.lit (.int 1)) (.cons (.neg (.lit (.int 1))) (.cons (.neg (.lit (.int 1))) (.cons (.lit (.int 1)) .nil))))))))))))))))) (.var 0)))
    .nil)
noncomputable def p_law_sign : Fn := ⟨1, 1, p_law_sign_body⟩
noncomputable def p_law_sign_names : List (Str × Nat) := [((Str.ofString "places"), 0)]

noncomputable def p_law_full_body : SL := (.cons (.ret (.ite (.cmp .NotEq (.bi .sum (.cons (.compIf (.call 8 (.cons (.var 1) .nil)) (.one (Str.ofString "v") 1) (.range (.cons (.lit (.int 16)) .nil)) (.bin .BitAnd (.bin .RShift (.var 0) (.var 1)) (.lit (.int 1)))) .nil)) (.lit (.int 0))) (.var 0) (.bin .BitXor (.var 0) (.lit (.int 1)))))
    .nil)
noncomputable def p_law_full : Fn := ⟨1, 2, p_law_full_body⟩
noncomputable def p_law_full_names : List (Str × Nat) := [((Str.ofString "number"), 0)]

noncomputable def p_law_bits_body : SL := (.cons (.assign 1 (.bin .Add (.lit (.byt #[65, 65, 65, 65])) (.call 5 (.cons (.var 0) .nil))))
    (.cons (.ret (.comp (.bin .BitAnd (.bin .RShift (.bin .Sub (.idx (.var 1) (.bin .Sub (.neg (.lit (.int 1))) (.bin .FloorDiv (.var 2) (.lit (.int 4))))) (.lit (.int 65))) (.bin .Mod (.var 2) (.lit (.int 4)))) (.lit (.int 1))) (.one (Str.ofString "v") 2) (.range (.cons (.lit (.int 16)) .nil))))
    .nil))
noncomputable def p_law_bits : Fn := ⟨1, 3, p_law_bits_body⟩
noncomputable def p_law_bits_names : List (Str × Nat) := [((Str.ofString "number"), 0), ((Str.ofString "letters"), 1)]

noncomputable def p_law_larger_body : SL := (.cons (.assign 1 (.comp (.bin .Mult (.call 8 (.cons (.var 3) .nil)) (.bin .Sub (.bin .Mult (.lit (.int 2)) (.idx (.var 0) (.var 3))) (.lit (.int 1)))) (.one (Str.ofString "v") 3) (.range (.cons (.lit (.int 16)) .nil))))
    (.cons (.assign 2 (.bi .sum (.cons (.var 1) .nil)))
    (.cons (.ret (.compIf (.var 4) (.one (Str.ofString "v") 4) (.range (.cons (.lit (.int 16)) .nil)) (.cmp .Gt (.bin .Mult (.idx (.var 1) (.var 4)) (.var 2)) (.lit (.int 0)))))
    .nil)))
noncomputable def p_law_larger : Fn := ⟨1, 5, p_law_larger_body⟩
noncomputable def p_law_larger_names : List (Str × Nat) := [((Str.ofString "bits"), 0), ((Str.ofString "side"), 1), ((Str.ofString "much"), 2)]

noncomputable def p_law_part_body : SL := (.cons (.assign 3 (.call 3 (.cons (.var 0) (.cons (.var 1) .nil))))
    (.cons (.ife (.cmp .Eq (.var 3) (.lit (.int 0)))
   (.cons (.ret (.lit (.int 2)))
    .nil)
   .nil)
    (.cons (.ret (.ite (.cmp .In (.var 3) (.tup (.cons (.lit (.int 1)) (.cons (.lit (.int 2)) (.cons (.lit (.int 4)) .nil))))) (.bin .Mult (.var 2) (.call 8 (.cons (.bin .FloorDiv (.var 0) (.bin .Mult (.lit (.int 2)) (.var 3))) .nil))) (.lit (.int 0))))
    .nil)))
noncomputable def p_law_part : Fn := ⟨3, 4, p_law_part_body⟩
noncomputable def p_law_part_names : List (Str × Nat) := [((Str.ofString "v"), 0), ((Str.ofString "u"), 1), ((Str.ofString "turn"), 2), ((Str.ofString "gap"), 3)]

noncomputable def p_law_lowest_body : SL := (.cons (.assign 1 (.lit (.int 0)))
    (.cons (.for (.one (Str.ofString "n") 2) (.exp (.var 0))
   (.cons (.whil (2 ^ 520) (.cmp .NotEq (.var 2) (.lit (.int 0)))
   (.cons (.assign2 1 2 (.tup (.cons (.var 2) (.cons (.bin .Mod (.var 1) (.var 2)) .nil))))
    .nil))
    .nil))
    (.cons (.ret (.comp (.bin .FloorDiv (.var 3) (.var 1)) (.one (Str.ofString "n") 3) (.exp (.var 0))))
    .nil)))
noncomputable def p_law_lowest : Fn := ⟨1, 4, p_law_lowest_body⟩
noncomputable def p_law_lowest_names : List (Str × Nat) := [((Str.ofString "row"), 0), ((Str.ofString "common"), 1), ((Str.ofString "n"), 2)]

noncomputable def p_law_without_body : SL := (.cons (.ret (.comp (.call 2 (.cons (.call 0 (.cons (.idx (.var 1) (.var 2)) (.cons (.var 3) .nil))) (.cons (.call 0 (.cons (.idx (.var 0) (.var 2)) (.cons (.var 4) .nil))) .nil))) (.two (Str.ofString "a") 3 (Str.ofString "b") 4) (.zip (.var 0) (.var 1))))
    .nil)
noncomputable def p_law_without : Fn := ⟨3, 5, p_law_without_body⟩
noncomputable def p_law_without_names : List (Str × Nat) := [((Str.ofString "row"), 0), ((Str.ofString "base"), 1), ((Str.ofString "col"), 2)]

noncomputable def p_law_kernel_body : SL := (.cons (.assign 2 (.list .nil))
    (.cons (.for (.one (Str.ofString "row") 3) (.exp (.var 0))
   (.cons (.for (.two (Str.ofString "base") 4 (Str.ofString "col") 5) (.exp (.var 2))
   (.cons (.assign 3 (.call 14 (.cons (.var 3) (.cons (.var 4) (.cons (.var 5) .nil)))))
    .nil))
    (.cons (.assign 6 (.compIf (.var 9) (.one (Str.ofString "c") 9) (.range (.cons (.var 1) .nil)) (.cmp .NotEq (.idx (.var 3) (.var 9)) (.lit (.int 0)))))
    (.cons (.ife (.cmp .NotEq (.var 6) (.list .nil))
   (.cons (.assign 3 (.call 13 (.cons (.var 3) .nil)))
    (.cons (.assign 2 (.bin .Add (.comp (.tup (.cons (.call 14 (.cons (.var 10) (.cons (.var 3) (.cons (.idx (.var 6) (.lit (.int 0))) .nil)))) (.cons (.var 11) .nil))) (.two (Str.ofString "base") 10 (Str.ofString "col") 11) (.exp (.var 2))) (.list (.cons (.tup (.cons (.var 3) (.cons (.idx (.var 6) (.lit (.int 0))) .nil))) .nil))))
    .nil))
   .nil)
    .nil))))
    (.cons (.assign 7 (.idx (.compIf (.var 12) (.one (Str.ofString "c") 12) (.range (.cons (.var 1) .nil)) (.cmp .NotIn (.var 12) (.comp (.var 14) (.two (Str.ofString "base") 13 (Str.ofString "col") 14) (.exp (.var 2))))) (.lit (.int 0))))
    (.cons (.assignOwn 8 (.repl 0 (.var 1)))
    (.cons (.sub 8 (.var 7) (.lit (.int 1)))
    (.cons (.for (.two (Str.ofString "base") 4 (Str.ofString "col") 5) (.exp (.var 2))
   (.cons (.sub 8 (.var 7) (.bin .Mult (.oidx 8 (.var 7)) (.idx (.var 4) (.var 5))))
    .nil))
    (.cons (.for (.two (Str.ofString "base") 4 (Str.ofString "col") 5) (.exp (.var 2))
   (.cons (.sub 8 (.var 5) (.bin .FloorDiv (.bin .Mult (.neg (.idx (.var 4) (.var 7))) (.oidx 8 (.var 7))) (.idx (.var 4) (.var 5))))
    .nil))
    (.cons (.freeze 8)
    (.cons (.ret (.call 13 (.cons (.var 8) .nil)))
    .nil)))))))))
noncomputable def p_law_kernel : Fn := ⟨2, 15, p_law_kernel_body⟩
noncomputable def p_law_kernel_names : List (Str × Nat) := [((Str.ofString "rows"), 0), ((Str.ofString "width"), 1), ((Str.ofString "pivots"), 2), ((Str.ofString "row"), 3), ((Str.ofString "base"), 4), ((Str.ofString "col"), 5), ((Str.ofString "cols"), 6), ((Str.ofString "last"), 7), ((Str.ofString "vector"), 8)]

noncomputable def p_law_vector_body : SL := (.cons (.assign 1 (.comp (.compIf (.bin .Mod (.var 12) (.lit (.int 8))) (.one (Str.ofString "v") 12) (.range (.cons (.lit (.int 16)) .nil)) (.boolop .And (.cons (.cmp .Eq (.bin .FloorDiv (.var 12) (.lit (.int 8))) (.var 11)) (.cons (.cmp .NotIn (.var 12) (.var 0)) .nil)))) (.one (Str.ofString "half") 11) (.range (.cons (.lit (.int 2)) .nil))))
    (.cons (.assign 2 (.ite (.cmp .GtE (.bi .len (.cons (.idx (.var 1) (.lit (.int 0))) .nil)) (.bi .len (.cons (.idx (.var 1) (.lit (.int 1))) .nil))) (.lit (.int 0)) (.lit (.int 1))))
    (.cons (.assign 3 (.bin .Sub (.bin .Mult (.lit (.int 2)) (.var 2)) (.lit (.int 1))))
    (.cons (.assign 4 (.compIf (.var 13) (.one (Str.ofString "v") 13) (.range (.cons (.lit (.int 8)) .nil)) (.cmp .NotIn (.var 13) (.idx (.var 1) (.var 2)))))
    (.cons (.assign 5 (.call 15 (.cons (.comp (.comp (.call 12 (.cons (.var 14) (.cons (.var 15) (.cons (.var 3) .nil)))) (.one (Str.ofString "u") 15) (.exp (.var 4))) (.one (Str.ofString "v") 14) (.exp (.idx (.var 1) (.bin .Sub (.lit (.int 1)) (.var 2))))) (.cons (.bi .len (.cons (.var 4) .nil)) .nil))))
    (.cons (.assignOwn 6 (.repl 0 (.lit (.int 8))))
    (.cons (.for (.two (Str.ofString "v") 7 (Str.ofString "n") 8) (.zip (.var 4) (.var 5))
   (.cons (.sub 6 (.var 7) (.var 8))
    .nil))
    (.cons (.freeze 6)
    (.cons (.assignOwn 9 (.list .nil))
    (.cons (.for (.one (Str.ofString "v") 7) (.range (.cons (.lit (.int 8)) .nil))
   (.cons (.assign 10 (.comp (.bin .Mult (.call 8 (.cons (.bin .FloorDiv (.var 7) (.bin .Mult (.lit (.int 2)) (.var 16))) .nil)) (.idx (.var 6) (.call 3 (.cons (.var 7) (.cons (.var 16) .nil))))) (.one (Str.ofString "gap") 16) (.exp (.tup (.cons (.lit (.int 1)) (.cons (.lit (.int 2)) (.cons (.lit (.int 4)) .nil)))))))
    (.cons (.append 9 (.bin .Add (.bin .Mult (.lit (.int 2)) (.idx (.var 6) (.var 7))) (.bin .Mult (.var 3) (.bi .sum (.cons (.var 10) .nil)))))
    .nil)))
    (.cons (.freeze 9)
    (.cons (.ret (.ite (.cmp .Eq (.var 2) (.lit (.int 0))) (.bin .Add (.var 6) (.var 9)) (.bin .Add (.var 9) (.var 6))))
    .nil))))))))))))
noncomputable def p_law_vector : Fn := ⟨1, 17, p_law_vector_body⟩
noncomputable def p_law_vector_names : List (Str × Nat) := [((Str.ofString "larger"), 0), ((Str.ofString "out"), 1), ((Str.ofString "own"), 2), ((Str.ofString "turn"), 3), ((Str.ofString "free"), 4), ((Str.ofString "found"), 5), ((Str.ofString "half"), 6), ((Str.ofString "v"), 7), ((Str.ofString "n"), 8), ((Str.ofString "rest"), 9), ((Str.ofString "around"), 10)]

noncomputable def p_law_book_body : SL := (.cons (.hnew 1)
    (.cons (.for (.two (Str.ofString "v") 2 (Str.ofString "n") 3) (.enum (.var 0))
   (.cons (.ife (.cmp .NotEq (.var 3) (.lit (.int 0)))
   (.cons (.assign 4 (.meth .join (.lit (.str (Str.ofString ""))) (.cons (.comp (.bi .chr (.cons (.var 5) .nil)) (.one (Str.ofString "octet") 5) (.exp (.call 5 (.cons (.bin .Add (.lit (.int 16)) (.var 2)) .nil)))) .nil)))
    (.cons (.hadd 1 (.ite (.cmp .Gt (.var 3) (.lit (.int 0))) (.var 4) (.meth .lower (.var 4) .nil)) (.meth .join (.lit (.str (Str.ofString ""))) (.cons (.comp (.bi .chr (.cons (.var 6) .nil)) (.one (Str.ofString "octet") 6) (.exp (.call 5 (.cons (.var 3) .nil)))) .nil)))
    .nil))
   .nil)
    .nil))
    (.cons (.hfreeze 1)
    (.cons (.ret (.var 1))
    .nil))))
noncomputable def p_law_book : Fn := ⟨1, 7, p_law_book_body⟩
noncomputable def p_law_book_names : List (Str × Nat) := [((Str.ofString "vector"), 0), ((Str.ofString "book"), 1), ((Str.ofString "v"), 2), ((Str.ofString "n"), 3), ((Str.ofString "name"), 4)]

noncomputable def p_law_told_body : SL := (.cons (.assign 1 (.meth .keys (.var 0) .nil))
    (.cons (.assignOwn 2 (.list .nil))
    (.cons (.for (.one (Str.ofString "v") 3) (.range (.cons (.lit (.int 16)) .nil))
   (.cons (.assign 4 (.bin .Add (.lit (.str (Str.ofString "B"))) (.idx (.lit (.str (Str.ofString "ABCDEFGHIJKLMNOP"))) (.var 3))))
    (.cons (.assign 5 (.lit (.int 0)))
    (.cons (.for (.one (Str.ofString "letter") 6) (.exp (.meth .get (.var 0) (.cons (.var 4) (.cons (.lit (.str (Str.ofString ""))) .nil))))
   (.cons (.assign 5 (.bin .Sub (.bin .Add (.bin .Mult (.lit (.int 16)) (.var 5)) (.bi .ord (.cons (.var 6) .nil))) (.lit (.int 65))))
    .nil))
    (.cons (.append 2 (.ite (.call 4 (.cons (.var 1) (.cons (.var 4) .nil))) (.var 5) (.call 1 (.cons (.var 5) .nil))))
    .nil)))))
    (.cons (.freeze 2)
    (.cons (.ret (.var 2))
    .nil)))))
noncomputable def p_law_told : Fn := ⟨1, 7, p_law_told_body⟩
noncomputable def p_law_told_names : List (Str × Nat) := [((Str.ofString "book"), 0), ((Str.ofString "names"), 1), ((Str.ofString "told"), 2), ((Str.ofString "v"), 3), ((Str.ofString "name"), 4), ((Str.ofString "size"), 5), ((Str.ofString "letter"), 6)]

noncomputable def p_law_around_body : SL := (.cons (.assignOwn 1 (.repl 0 (.lit (.int 16))))
    (.cons (.for (.two (Str.ofString "v") 2 (Str.ofString "n") 3) (.enum (.var 0))
   (.cons (.ife (.cmp .NotEq (.var 3) (.lit (.int 0)))
   (.cons (.for (.one (Str.ofString "gap") 4) (.exp (.tup (.cons (.lit (.int 1)) (.cons (.lit (.int 2)) (.cons (.lit (.int 4)) (.cons (.lit (.int 8)) .nil))))))
   (.cons (.assign 5 (.call 3 (.cons (.var 2) (.cons (.var 4) .nil))))
    (.cons (.sub 1 (.var 5) (.bin .Add (.oidx 1 (.var 5)) (.bin .Mult (.call 8 (.cons (.bin .FloorDiv (.var 5) (.bin .Mult (.lit (.int 2)) (.var 4))) .nil)) (.var 3))))
    .nil)))
    .nil)
   .nil)
    .nil))
    (.cons (.freeze 1)
    (.cons (.ret (.var 1))
    .nil))))
noncomputable def p_law_around : Fn := ⟨1, 6, p_law_around_body⟩
noncomputable def p_law_around_names : List (Str × Nat) := [((Str.ofString "told"), 0), ((Str.ofString "sums"), 1), ((Str.ofString "v"), 2), ((Str.ofString "n"), 3), ((Str.ofString "gap"), 4), ((Str.ofString "u"), 5)]

noncomputable def p_law_spell_body : SL := (.cons (.ret (.meth .join (.lit (.str (Str.ofString ""))) (.cons (.comp (.idx (.lit (.str (Str.ofString "abcdABCD"))) (.bin .Add (.var 1) (.bin .Mult (.lit (.int 4)) (.bin .BitAnd (.bin .RShift (.var 0) (.var 1)) (.lit (.int 1)))))) (.one (Str.ofString "k") 1) (.range (.cons (.lit (.int 4)) .nil))) .nil)))
    .nil)
noncomputable def p_law_spell : Fn := ⟨1, 2, p_law_spell_body⟩
noncomputable def p_law_spell_names : List (Str × Nat) := [((Str.ofString "v"), 0)]

noncomputable def p_law_near_body : SL := (.cons (.assign 2 (.call 20 (.cons (.var 0) .nil)))
    (.cons (.assign 3 (.comp (.call 7 (.cons (.var 2) (.cons (.call 20 (.cons (.var 4) .nil)) (.cons (.lit (.int 1)) .nil)))) (.one (Str.ofString "v") 4) (.range (.cons (.lit (.int 16)) .nil))))
    (.cons (.ife (.cmp .NotEq (.bi .sorted (.cons (.var 3) .nil)) (.bin .Add (.bin .Add (.list (.cons (.lit (.int 0)) .nil)) (.repl 1 (.lit (.int 4)))) (.repl 2 (.lit (.int 11)))))
   (.cons (.ret (.list .nil))
    .nil)
   .nil)
    (.cons (.ret (.compIf (.var 5) (.one (Str.ofString "v") 5) (.exp (.var 1)) (.cmp .Eq (.idx (.var 3) (.var 5)) (.lit (.int 1)))))
    .nil))))
noncomputable def p_law_near : Fn := ⟨2, 6, p_law_near_body⟩
noncomputable def p_law_near_names : List (Str × Nat) := [((Str.ofString "top"), 0), ((Str.ofString "larger"), 1), ((Str.ofString "word"), 2), ((Str.ofString "costs"), 3)]

noncomputable def p_law_body : SL := (.cons (.assign 1 (.call 9 (.cons (.bin .Mod (.bin .Add (.lit (.int 63624)) (.bi .sum (.cons (.comp (.bin .Mod (.var 10) (.lit (.int 1000000))) (.one (Str.ofString "x") 10) (.exp (.slHi (.var 0) (.lit (.int 12))))) .nil))) (.lit (.int 65536))) .nil)))
    (.cons (.assign 2 (.comp (.bin .BitAnd (.bin .RShift (.var 1) (.var 11)) (.lit (.int 1))) (.one (Str.ofString "v") 11) (.range (.cons (.lit (.int 16)) .nil))))
    (.cons (.assign 3 (.call 10 (.cons (.var 1) .nil)))
    (.cons (.assign 4 (.call 11 (.cons (.var 3) .nil)))
    (.cons (.assign 5 (.call 16 (.cons (.var 4) .nil)))
    (.cons (.assign 6 (.call 18 (.cons (.call 17 (.cons (.var 5) .nil)) .nil)))
    (.cons (.assign 7 (.neg (.idx (.bi .max (.cons (.comp (.tup (.cons (.bi .max (.cons (.var 13) (.cons (.neg (.var 13)) .nil))) (.cons (.neg (.var 12)) .nil))) (.two (Str.ofString "v") 12 (Str.ofString "n") 13) (.enum (.var 6))) .nil)) (.lit (.int 1)))))
    (.cons (.assign 8 (.call 21 (.cons (.var 7) (.cons (.var 4) .nil))))
    (.cons (.assign 9 (.compIf (.var 14) (.one (Str.ofString "v") 14) (.range (.cons (.lit (.int 16)) .nil)) (.boolop .And (.cons (.cmp .In (.bin .BitXor (.var 14) (.var 7)) (.tup (.cons (.lit (.int 1)) (.cons (.lit (.int 2)) (.cons (.lit (.int 4)) (.cons (.lit (.int 8)) .nil)))))) (.cons (.cmp .NotEq (.idx (.var 2) (.var 14)) (.idx (.var 2) (.var 7))) .nil)))))
    (.cons (.ife (.boolop .Or (.cons (.cmp .NotEq (.var 3) (.var 2)) (.cons (.cmp .NotEq (.var 6) (.var 5)) (.cons (.cmp .NotEq (.compIf (.var 15) (.one (Str.ofString "v") 15) (.range (.cons (.lit (.int 16)) .nil)) (.boolop .And (.cons (.cmp .NotEq (.idx (.var 6) (.var 15)) (.lit (.int 0))) (.cons (.cmp .NotIn (.var 15) (.var 4)) .nil)))) (.list .nil)) .nil))))
   (.cons (.ret (.lit (.bool false)))
    .nil)
   .nil)
    (.cons (.ret (.boolop .And (.cons (.cmp .Eq (.call 19 (.cons (.var 6) .nil)) (.comp (.bin .Mult (.lit (.int 2)) (.var 16)) (.one (Str.ofString "n") 16) (.exp (.var 6)))) (.cons (.cmp .Eq (.var 8) (.var 9)) (.cons (.cmp .Gt (.bi .len (.cons (.var 8) .nil)) (.lit (.int 1))) .nil)))))
    .nil)))))))))))
noncomputable def p_law : Fn := ⟨1, 17, p_law_body⟩
noncomputable def p_law_names : List (Str × Nat) := [((Str.ofString "script"), 0), ((Str.ofString "number"), 1), ((Str.ofString "bits"), 2), ((Str.ofString "written"), 3), ((Str.ofString "larger"), 4), ((Str.ofString "vector"), 5), ((Str.ofString "told"), 6), ((Str.ofString "top"), 7), ((Str.ofString "near"), 8), ((Str.ofString "felt"), 9)]

noncomputable def p_h_keys_body : SL := (.cons (.ret (.comp (.var 1) (.two (Str.ofString "k") 1 (Str.ofString "v") 2) (.exp (.hattr (.var 0)))))
    .nil)
noncomputable def p_h_keys : Fn := ⟨1, 3, p_h_keys_body⟩
noncomputable def p_h_keys_names : List (Str × Nat) := [((Str.ofString "self"), 0)]

noncomputable def p_h_get_body : SL := (.cons (.assign 1 (.conv (.var 0) (.meth .lower (.var 1) .nil) true))
    (.cons (.for (.two (Str.ofString "k") 3 (Str.ofString "v") 4) (.exp (.hattr (.var 0)))
   (.cons (.ife (.cmp .Eq (.meth .lower (.var 3) .nil) (.var 1))
   (.cons (.ret (.var 4))
    .nil)
   .nil)
    .nil))
    (.cons (.ret (.var 2))
    .nil)))
noncomputable def p_h_get : Fn := ⟨3, 5, p_h_get_body⟩
noncomputable def p_h_get_names : List (Str × Nat) := [((Str.ofString "self"), 0), ((Str.ofString "name"), 1), ((Str.ofString "default"), 2), ((Str.ofString "k"), 3), ((Str.ofString "v"), 4)]

noncomputable def fnames : List Str := [(Str.ofString "mul"), (Str.ofString "neg"), (Str.ofString "sub"), (Str.ofString "xor"), (Str.ofString "contains"), (Str.ofString "Int2AP"), (Str.ofString "_substitution_cost"), (Str.ofString "_levenshtein_distance"), (Str.ofString "_law_sign"), (Str.ofString "_law_full"), (Str.ofString "_law_bits"), (Str.ofString "_law_larger"), (Str.ofString "_law_part"), (Str.ofString "_law_lowest"), (Str.ofString "_law_without"), (Str.ofString "_law_kernel"), (Str.ofString "_law_vector"), (Str.ofString "_law_book"), (Str.ofString "_law_told"), (Str.ofString "_law_around"), (Str.ofString "_law_spell"), (Str.ofString "_law_near"), (Str.ofString "law")]
end Mine
end

-- S1
section
open PySem
set_option maxRecDepth 100000
set_option autoImplicit false
set_option genSizeOf false
set_option genInjectivity false
namespace Mine
/-- a def of the text: its name, where it lies, its names' slots, its term -/
structure Dn where
  name : Str
  a : Nat
  Δ : List (Str × Nat)
  fn : Fn
noncomputable def tab : List Dn := [⟨"mul", 45, p_mul_names, p_mul⟩, ⟨"neg", 52, p_neg_names, p_neg⟩, ⟨"sub", 59, p_sub_names, p_sub⟩, ⟨"xor", 66, p_xor_names, p_xor⟩, ⟨"contains", 73, p_contains_names, p_contains⟩, ⟨"Int2AP", 80, p_Int2AP_names, p_Int2AP⟩,
  ⟨"_substitution_cost", 87, p_substitution_cost_names, p_substitution_cost⟩, ⟨"_levenshtein_distance", 94, p_levenshtein_distance_names, p_levenshtein_distance⟩, ⟨"_law_sign", 251, p_law_sign_names, p_law_sign⟩, ⟨"_law_full", 256, p_law_full_names, p_law_full⟩,
  ⟨"_law_bits", 261, p_law_bits_names, p_law_bits⟩, ⟨"_law_larger", 266, p_law_larger_names, p_law_larger⟩, ⟨"_law_part", 273, p_law_part_names, p_law_part⟩, ⟨"_law_lowest", 278, p_law_lowest_names, p_law_lowest⟩, ⟨"_law_without", 283, p_law_without_names, p_law_without⟩,
  ⟨"_law_kernel", 288, p_law_kernel_names, p_law_kernel⟩, ⟨"_law_vector", 293, p_law_vector_names, p_law_vector⟩, ⟨"_law_book", 298, p_law_book_names, p_law_book⟩, ⟨"_law_told", 305, p_law_told_names, p_law_told⟩, ⟨"_law_around", 312, p_law_around_names, p_law_around⟩,
  ⟨"_law_spell", 317, p_law_spell_names, p_law_spell⟩, ⟨"_law_near", 322, p_law_near_names, p_law_near⟩, ⟨"law", 327, p_law_names, p_law⟩, ⟨"keys", 192, p_h_keys_names, p_h_keys⟩, ⟨"get", 187, p_h_get_names, p_h_get⟩]
/-- the defs' terms, by number -/
noncomputable def fnOf (f : Nat) : Option Fn := (tab.map (·.fn))[f]?
noncomputable def byHand (f : Nat) (args : List PV) : Option PV :=
  if f = 25 then arg2 args fun o y => o.h?.bind fun _ => y.s?.bind fun x => if okText x = true ∧ x.length < 4096 then some (.str x) else none
  else if f = 26 then arg2 args fun k v => k.s?.bind fun k => v.s?.bind fun v => if okText k = true ∧ k.length < 4096 ∧ okText v = true ∧ v.length < 4096 then some .none else none
  else if f = 27 then arg0 args (some .none) else none
/-- what a call answers, with room for so many calls below it -/
noncomputable def GG : Nat → Nat → List PV → Option PV
  | 0, _, _ => none
  | n + 1, f, args => Option.casesOn (motive := fun _ => Option PV) (fnOf f) (byHand f args) fun fn => run (GG n) fn args
end Mine
end

-- Q1
section
open PySem PyProof.Rows PySem.Calls PySem.Spec PySem.W
set_option maxRecDepth 100000
set_option autoImplicit false
namespace Mine

/-! undoing the pure functions -/
section
variable {α β : Type} {P : Prop}
theorem bindE {o : Option α} {f : α → Option β} {z : β} (h : o.bind f = some z) (k : ∀ x, o = some x → f x = some z → P) : P := by
  cases o with
  | none => cases h
  | some x => exact k x rfl h
theorem ifE {c : Prop} [Decidable c] {x : Option α} {z : α} (h : (if c then x else none) = some z) (k : c → x = some z → P) : P := by
  by_cases hc : c
  · exact k hc ((if_pos hc).symm.trans h)
  · rw [if_neg hc] at h; cases h
@[elab_as_elim] theorem someE {x : α} {Q : α → Prop} {z : α} (h : some x = some z) (k : Q x) : Q z := Option.some.inj h ▸ k
theorem none_some {q : α} (h : (none : Option α) = some q) : P := by cases h
theorem and1 {a b : Bool} (h : (a && b) = true) : a = true := (Bool.and_eq_true_iff.mp h).1
theorem and2 {a b : Bool} (h : (a && b) = true) : b = true := (Bool.and_eq_true_iff.mp h).2
end
section
variable {α : Type} {f : PV → Option α} {g : PV → PV → Option α} {xs : List PV} {z : α} {P : List PV → Prop}
@[elab_as_elim] theorem arg0E {r : Option α} (h : arg0 xs r = some z) (k : r = some z → P []) : P xs := by
  cases xs with
  | nil => exact k h
  | cons => exact none_some h
@[elab_as_elim] theorem arg1E (h : arg1 xs f = some z) (k : ∀ v, f v = some z → P [v]) : P xs := by
  cases xs with
  | nil => exact none_some h
  | cons a r => exact arg0E (P := fun r => P (a :: r)) h (k a)
@[elab_as_elim] theorem arg2E (h : arg2 xs g = some z) (k : ∀ v u, g v u = some z → P [v, u]) : P xs := by
  cases xs with
  | nil => exact none_some h
  | cons a r => exact arg1E (P := fun r => P (a :: r)) h (k a)
end
@[elab_as_elim] theorem i?E {v : PV} {a : Int} {P : PV → Prop} (h : v.i? = some a) (k : P (.int a)) : P v := by cases v <;> first | exact none_some h | exact Option.some.inj h ▸ k
@[elab_as_elim] theorem s?E {v : PV} {a : Str} {P : PV → Prop} (h : v.s? = some a) (k : P (.str a)) : P v := by cases v <;> first | exact none_some h | exact Option.some.inj h ▸ k
@[elab_as_elim] theorem t?E {v : PV} {a : List PV} {P : PV → Prop} (h : v.t? = some a) (k : P (.tup a)) : P v := by cases v <;> first | exact none_some h | exact Option.some.inj h ▸ k
@[elab_as_elim] theorem l?E {v : PV} {a : List PV} {P : PV → Prop} (h : v.l? = some a) (k : P (.lst a)) : P v := by cases v <;> first | exact none_some h | exact Option.some.inj h ▸ k
@[elab_as_elim] theorem iiE {α : Type} {x y : PV} {f : Int → Int → Option α} {z : α} {P : PV → PV → Prop} (h : ii x y f = some z) (k : ∀ a b, f a b = some z → P (.int a) (.int b)) : P x y :=
  bindE h fun a ha h => bindE h fun b hb h => i?E (P := fun x => P x y) ha (i?E hb (k a b h))

/-- the heap has only grown -/
structure Kp (s s' : Shared) : Prop where
  same : ∃ h' tk, s' = { s with heap := h', toks := tk }
  keep : ∀ b o, s.heap.get? b = some o → s'.heap.get? b = some o
theorem Kp.refl (s : Shared) : Kp s s := ⟨⟨s.heap, s.toks, rfl⟩, fun _ _ e => e⟩
theorem Kp.trans {s s' s'' : Shared} (x : Kp s s') (y : Kp s' s'') : Kp s s'' := by
  obtain ⟨⟨h, t, rfl⟩, k⟩ := x
  obtain ⟨⟨h', t', rfl⟩, k'⟩ := y
  exact ⟨⟨h', t', rfl⟩, fun b o e => k' b o (k b o e)⟩
theorem Kp.get {s s' : Shared} (x : Kp s s') {b : Addr} {o : Obj} (e : s.heap.get? b = some o) : s'.heap.get? b = some o := x.keep b o e
theorem Kp.none {s s' : Shared} (x : Kp s s') {b : Addr} (e : s'.heap.get? b = none) : s.heap.get? b = none := by
  cases q : s.heap.get? b with
  | none => rfl
  | some o => rw [x.get q] at e; cases e
theorem Kp.toks (s : Shared) (t : Nat) : Kp s { s with toks := t } := ⟨⟨s.heap, t, rfl⟩, fun _ _ e => e⟩
theorem Kp.push (s : Shared) (o : Obj) : Kp s { s with heap := s.heap.push o } := ⟨⟨_, s.toks, rfl⟩, fun _ _ e => Heap.get?_push_of_some _ e⟩
theorem Kp.pushT (s : Shared) (o : Obj) (t : Nat) : Kp s { s with heap := s.heap.push o, toks := t } := ⟨⟨_, t, rfl⟩, fun _ _ e => Heap.get?_push_of_some _ e⟩
theorem Kp.of {s : Shared} {h' : Heap} {t : Nat} (k : ∀ b o, s.heap.get? b = some o → h'.get? b = some o) : Kp s { s with heap := h', toks := t } := ⟨⟨h', t, rfl⟩, k⟩
theorem Kp.of' {s : Shared} {h' : Heap} (k : ∀ b o, s.heap.get? b = some o → h'.get? b = some o) : Kp s { s with heap := h' } := ⟨⟨h', s.toks, rfl⟩, k⟩
theorem Kp.ofKeeps {s s' : Shared} (x : PySem.Keeps s s') : Kp s s' := let ⟨h', t, e, k⟩ := x; by subst e; exact ⟨⟨h', t, rfl⟩, k⟩
theorem Kp.toKeeps {s s' : Shared} (x : Kp s s') : PySem.Keeps s s' := by
  obtain ⟨⟨h', t, rfl⟩, k⟩ := x
  exact ⟨h', t, rfl, k⟩

/-- the owned lists are there -/
noncomputable def Alive (O : List Addr) (h : Heap) : Prop := ∀ a ∈ O, ∃ o, h.get? a = some o
theorem Alive.keeps {O : List Addr} {s s' : Shared} (x : Alive O s.heap) (k : Kp s s') : Alive O s'.heap := fun a ha => let ⟨o, e⟩ := x a ha; ⟨o, k.get e⟩
theorem Alive.new {O : List Addr} {h : Heap} (x : Alive O h) {a : Addr} (e : h.get? a = none) : a ∉ O := fun ha => by
  obtain ⟨o, q⟩ := x a ha
  rw [e] at q; cases q
theorem new_ge {h : Heap} {b : Addr} (hb : h.objs.size ≤ b) : h.get? b = none := by
  cases e : h.get? b with
  | none => rfl
  | some o => exact absurd (Heap.lt_size e) (Nat.not_lt.mpr hb)
theorem get_size (h : Heap) : h.get? h.objs.size = none := new_ge (Nat.le_refl _)

/-- a Headers object, with no part in O -/
structure HdrIs (O : List Addr) (h : Heap) (x : Addr) (xs : List (Str × Str)) (dx l : Addr) (ts : List Addr) : Prop where
  xO : x ∉ O
  dO : dx ∉ O
  lO : l ∉ O
  apart : dx ≠ x
  obj : ∃ o, h.get? x = some o ∧ o.cls = .ref 240 ∧ o.dict = some dx ∧ ∀ c, o.data ≠ .cls c
  ns : h.Ns1 dx fun n => if n = Str.ofString "_headers" then some (.ref l) else none
  list : PlainL h l (ts.map Value.ref).toArray
  len : ts.length = xs.length
  item : ∀ t p, (t, p) ∈ ts.zip xs → t ∉ O ∧ ∃ u v, h.IsTuple t #[.str p.1 u, .str p.2 v]
mutual
/-- v stands for d at heap h, with no part in O -/
inductive Rep (O : List Addr) (h : Heap) : Value → PV → Prop
  | none : Rep O h Value.none .none
  | bool (b : Bool) : Rep O h (Value.bool b) (.bool b)
  | int (i : Int) (t : Tok) : Rep O h (Value.int i t) (.int i)
  | str (x : Str) (t : Tok) : Rep O h (Value.str x t) (.str x)
  | byt (b : Array UInt8) (t : Tok) : Rep O h (Value.bytes b t) (.byt b)
  | tup {a : Addr} {vs : List Value} {ds : List PV} : a ∉ O → h.IsTuple a vs.toArray → RepL O h vs ds → Rep O h (Value.ref a) (.tup ds)
  | lst {a : Addr} {vs : List Value} {ds : List PV} : a ∉ O → h.IsList a vs.toArray → RepL O h vs ds → Rep O h (Value.ref a) (.lst ds)
  | hdr {a dx l : Addr} {ts : List Addr} {xs : List (Str × Str)} : HdrIs O h a xs dx l ts → Rep O h (Value.ref a) (.hdr xs)
inductive RepL (O : List Addr) (h : Heap) : List Value → List PV → Prop
  | nil : RepL O h [] []
  | cons {v : Value} {vs : List Value} {d : PV} {ds : List PV} : Rep O h v d → RepL O h vs ds → RepL O h (v :: vs) (d :: ds)
end
/-- what is not in O is kept -/
structure Mv (O O' : List Addr) (h h' : Heap) : Prop where
  o : ∀ a, a ∉ O → (∃ o, h.get? a = some o) → a ∉ O'
  k : ∀ a o, a ∉ O → h.get? a = some o → h'.get? a = some o
section
variable {O O' : List Addr} {h h' : Heap} (m : Mv O O' h h')
include m
theorem Mv.seq {a : Addr} {P : Obj → Prop} (ha : a ∉ O) (ht : ∃ o, h.get? a = some o ∧ P o) : a ∉ O' ∧ ∃ o, h'.get? a = some o ∧ P o :=
  let ⟨o, e, r⟩ := ht; ⟨m.o _ ha ⟨o, e⟩, o, m.k _ o ha e, r⟩
theorem HdrIs.mono {x dx l : Addr} {xs : List (Str × Str)} {ts : List Addr} (r : HdrIs O h x xs dx l ts) : HdrIs O' h' x xs dx l ts where
  xO := let ⟨o, e, _⟩ := r.obj; m.o _ r.xO ⟨o, e⟩
  dO := let ⟨o, _, _, e, _⟩ := r.ns; m.o _ r.dO ⟨o, e⟩
  lO := let ⟨o, _, e, _⟩ := r.list; m.o _ r.lO ⟨o, e⟩
  apart := r.apart
  obj := let ⟨o, e, q⟩ := r.obj; ⟨o, m.k _ _ r.xO e, q⟩
  ns := let ⟨o, es, ep, e, q⟩ := r.ns; ⟨o, es, ep, m.k _ _ r.dO e, q⟩
  list := let ⟨o, n, e, q⟩ := r.list; ⟨o, n, m.k _ _ r.lO e, q⟩
  len := r.len
  item := fun t p hm => let ⟨tO, u, v, o, e, q⟩ := r.item t p hm; ⟨m.o _ tO ⟨o, e⟩, u, v, o, m.k _ _ tO e, q⟩
theorem Rep.mono' {v : Value} {d : PV} (r : Rep O h v d) : Rep O' h' v d :=
  Rep.rec (motive_1 := fun v d _ => Rep O' h' v d) (motive_2 := fun vs ds _ => RepL O' h' vs ds) .none .bool .int .str .byt (fun ha ht _ ih => .tup (m.seq ha ht).1 (m.seq ha ht).2 ih) (fun ha ht _ ih => .lst (m.seq ha ht).1 (m.seq ha ht).2 ih) (fun x => .hdr (x.mono m)) .nil (fun _ _ a b => .cons a b) r
theorem RepL.mono' {vs : List Value} {ds : List PV} (r : RepL O h vs ds) : RepL O' h' vs ds :=
  RepL.rec (motive_1 := fun v d _ => Rep O' h' v d) (motive_2 := fun vs ds _ => RepL O' h' vs ds) .none .bool .int .str .byt (fun ha ht _ ih => .tup (m.seq ha ht).1 (m.seq ha ht).2 ih) (fun ha ht _ ih => .lst (m.seq ha ht).1 (m.seq ha ht).2 ih) (fun x => .hdr (x.mono m)) .nil (fun _ _ a b => .cons a b) r
end
section
variable {O O' : List Addr} {h h' : Heap} {s s' : Shared} {v : Value} {d : PV} {vs ws : List Value} {ds es : List PV}
theorem Rep.mono (hO : ∀ a, a ∉ O → (∃ o, h.get? a = some o) → a ∉ O') (hk : ∀ a o, a ∉ O → h.get? a = some o → h'.get? a = some o) (r : Rep O h v d) : Rep O' h' v d := r.mono' ⟨hO, hk⟩
theorem RepL.mono (hO : ∀ a, a ∉ O → (∃ o, h.get? a = some o) → a ∉ O') (hk : ∀ a o, a ∉ O → h.get? a = some o → h'.get? a = some o) (r : RepL O h vs ds) : RepL O' h' vs ds := r.mono' ⟨hO, hk⟩
theorem Mv.grow (k : ∀ b o, h.get? b = some o → h'.get? b = some o) : Mv O O h h' := ⟨fun _ ha _ => ha, fun a o _ => k a o⟩
theorem Rep.keeps (r : Rep O s.heap v d) (k : Kp s s') : Rep O s'.heap v d := r.mono' (.grow k.keep)
theorem RepL.keeps (r : RepL O s.heap vs ds) (k : Kp s s') : RepL O s'.heap vs ds := r.mono' (.grow k.keep)
theorem Rep.heap (r : Rep O h v d) (k : ∀ b o, h.get? b = some o → h'.get? b = some o) : Rep O h' v d := r.mono' (.grow k)
theorem RepL.heap (r : RepL O h vs ds) (k : ∀ b o, h.get? b = some o → h'.get? b = some o) : RepL O h' vs ds := r.mono' (.grow k)
/-- by the pairs -/
theorem RepL.ind {M : List Value → List PV → Prop} (n : M [] []) (c : ∀ v vs d ds, Rep O h v d → RepL O h vs ds → M vs ds → M (v :: vs) (d :: ds)) (r : RepL O h vs ds) : M vs ds := by
  induction vs generalizing ds with
  | nil => cases r; exact n
  | cons v vs ih => cases r with | cons a r => exact c _ _ _ _ a r (ih r)
theorem RepL.length (r : RepL O h vs ds) : vs.length = ds.length := r.ind (M := fun vs ds => vs.length = ds.length) rfl fun _ _ _ _ _ _ e => congrArg (· + 1) e
theorem RepL.empty (r : RepL O h vs ds) : (!vs.toArray.isEmpty) = !ds.isEmpty := r.ind (M := fun vs ds => (!vs.toArray.isEmpty) = !ds.isEmpty) rfl fun _ _ _ _ _ _ _ => rfl
theorem RepL.append (r : RepL O h vs ds) (q : RepL O h ws es) : RepL O h (vs ++ ws) (ds ++ es) := r.ind (M := fun vs ds => RepL O h (vs ++ ws) (ds ++ es)) q fun _ _ _ _ a _ e => .cons a e
theorem RepL.get (r : RepL O h vs ds) {k : Nat} {d : PV} (e : ds[k]? = some d) : ∃ v, vs[k]? = some v ∧ Rep O h v d :=
  r.ind (M := fun vs ds => ∀ k, ds[k]? = some d → ∃ v, vs[k]? = some v ∧ Rep O h v d) (fun _ h => none_some h) (fun v _ _ _ a _ ih k => match k with
    | 0 => fun e => ⟨v, rfl, Option.some.inj e ▸ a⟩
    | k + 1 => ih k) k e
theorem RepL.get' (r : RepL O h vs ds) {k : Nat} {v : Value} (e : vs[k]? = some v) : ∃ d, ds[k]? = some d ∧ Rep O h v d :=
  r.ind (M := fun vs ds => ∀ k, vs[k]? = some v → ∃ d, ds[k]? = some d ∧ Rep O h v d) (fun _ h => none_some h) (fun _ _ d _ a _ ih k => match k with
    | 0 => fun e => ⟨d, rfl, Option.some.inj e ▸ a⟩
    | k + 1 => ih k) k e
theorem RepL.drop (r : RepL O h vs ds) (k : Nat) : RepL O h (vs.drop k) (ds.drop k) := r.ind (M := fun vs ds => ∀ k, RepL O h (vs.drop k) (ds.drop k)) (fun k => by rw [List.drop_nil, List.drop_nil]; exact .nil) (fun _ _ _ _ a r ih k => match k with
    | 0 => .cons a r
    | k + 1 => ih k) k
theorem RepL.take (r : RepL O h vs ds) (k : Nat) : RepL O h (vs.take k) (ds.take k) := r.ind (M := fun vs ds => ∀ k, RepL O h (vs.take k) (ds.take k)) (fun k => by rw [List.take_nil, List.take_nil]; exact .nil) (fun _ _ _ _ a _ ih k => match k with
    | 0 => .nil
    | k + 1 => .cons a (ih k)) k
@[elab_as_elim] theorem Rep.intE {i : Int} {P : Value → Prop} (r : Rep O h v d) (e : d.i? = some i) (k : ∀ t, P (.int i t)) : P v := by
  cases r <;> first | exact none_some e | exact Option.some.inj e ▸ k _
@[elab_as_elim] theorem Rep.strE {x : Str} {P : Value → Prop} (r : Rep O h v d) (e : d.s? = some x) (k : ∀ t, P (.str x t)) : P v := by
  cases r <;> first | exact none_some e | exact Option.some.inj e ▸ k _
@[elab_as_elim] theorem Rep.bytE {x : Array UInt8} {P : Value → Prop} (r : Rep O h v d) (e : d.b? = some x) (k : ∀ t, P (.bytes x t)) : P v := by
  cases r <;> first | exact none_some e | exact Option.some.inj e ▸ k _
@[elab_as_elim] theorem Rep.lstE {xs : List PV} {P : Value → Prop} (r : Rep O h v d) (e : d.l? = some xs) (k : ∀ a vs, a ∉ O → h.IsList a vs.toArray → RepL O h vs xs → P (.ref a)) : P v := by
  cases r with
  | lst a b c => exact k _ _ a b (Option.some.inj e ▸ c)
  | _ => exact none_some e
@[elab_as_elim] theorem Rep.tupE {xs : List PV} {P : Value → Prop} (r : Rep O h v d) (e : d.t? = some xs) (k : ∀ a vs, a ∉ O → h.IsTuple a vs.toArray → RepL O h vs xs → P (.ref a)) : P v := by
  cases r with
  | tup a b c => exact k _ _ a b (Option.some.inj e ▸ c)
  | _ => exact none_some e
@[elab_as_elim] theorem Rep.hdrE {xs : List (Str × Str)} {P : Value → Prop} (r : Rep O h v d) (e : d.h? = some xs) (k : ∀ a dx l ts, HdrIs O h a xs dx l ts → P (.ref a)) : P v := by
  cases r with
  | hdr x => exact k _ _ _ _ (Option.some.inj e ▸ x)
  | _ => exact none_some e
theorem RepL.ints (r : RepL O h vs ds) {l : List Int} (e : intsOf ds = some l) : IntsAre vs l :=
  r.ind (M := fun vs ds => ∀ l, intsOf ds = some l → IntsAre vs l) (fun _ e => Option.some.inj e ▸ .nil) (fun _ vs _ _ a _ ih l e => bindE e fun i hi e => bindE e fun l' hl e => Option.some.inj e ▸ a.intE (P := fun v => IntsAre (v :: vs) (i :: l')) hi fun t => .cons i t (ih l' hl)) l e
theorem RepL.ofInts {l : List Int} (r : IntsAre vs l) : RepL O h vs (l.map .int) := by
  induction r with
  | nil => exact .nil
  | cons i t _ ih => exact .cons (.int i t) ih
theorem intsOf_map (l : List Int) : intsOf (l.map .int) = some l := by
  induction l with
  | nil => rfl
  | cons i l ih => show (intsOf (l.map .int)).bind _ = _; rw [ih]; rfl
theorem RepL.strs (r : RepL O h vs ds) {l : List Str} (e : strsOf ds = some l) : StrsAre vs l :=
  r.ind (M := fun vs ds => ∀ l, strsOf ds = some l → StrsAre vs l) (fun _ e => Option.some.inj e ▸ .nil) (fun _ vs _ _ a _ ih l e => bindE e fun i hi e => bindE e fun l' hl e => Option.some.inj e ▸ a.strE (P := fun v => StrsAre (v :: vs) (i :: l')) hi fun t => .cons i t (ih l' hl)) l e
/-- two ints -/
@[elab_as_elim] theorem Rep.ints2 {α : Type} {v u : Value} {x y : PV} {f : Int → Int → Option α} {z : α} {P : Value → Value → Prop} (r : Rep O h v x) (q : Rep O h u y) (e : ii x y f = some z) (k : ∀ i j t t', f i j = some z → P (.int i t) (.int j t')) : P v u :=
  bindE e fun i hi e => bindE e fun j hj e => r.intE (P := fun v => P v u) hi fun t => q.intE hj fun t' => k i j t t' e
end

/-- a tree that ends in a value for pv, the heap only grown -/
noncomputable def Ok (prog : Program) (w : World) (A : Around) (O : List Addr) (s : Shared) (t : Sem Value) (pv : PV) : Prop :=
  ∀ (Q E : Value → Shared → Prop), (∀ v s', Kp s s' → Rep O s'.heap v pv → Q v s') → wpAny (model prog w) A t Q E s
/-- a test -/
noncomputable def OkB (prog : Program) (w : World) (A : Around) (s : Shared) (t : Sem Bool) (b : Bool) : Prop :=
  ∀ (Q : Bool → Shared → Prop) (E : Value → Shared → Prop), (∀ s', Kp s s' → Q b s') → wpAny (model prog w) A t Q E s
structure AOk (n : Nat) (A : Around) : Prop where
  handled : A.handled = none
  depth : A.depth + n < recursionLimit
  units : A.units + 8 * n + 64 < cLine

section
variable {prog : Program} {w : World} {A : Around} {O : List Addr} {s : Shared}

theorem Ok.bool {b : Bool} {t : Sem Value} (h : ∀ Q E, (∀ s', Kp s s' → Q (.bool b) s') → wpAny (model prog w) A t Q E s) : Ok prog w A O s t (.bool b) :=
  fun Q E hQ => h Q E fun s' k => hQ _ s' k (.bool b)
theorem Ok.int {t : Sem Value} {c : Int} {z : PV} (e : some (PV.int c) = some z) (k : ∀ Q E, (∀ tk u, Q (.int c tk) { s with toks := u }) → wpAny (model prog w) A t Q E s) : Ok prog w A O s t z :=
  someE e fun Q E hQ => k Q E fun _ _ => hQ _ _ (Kp.toks _ _) (.int _ _)
theorem Ok.str {t : Sem Value} {c : Str} {z : PV} (e : some (PV.str c) = some z) (k : ∀ Q E, (∀ tk u, Q (.str c tk) { s with toks := u }) → wpAny (model prog w) A t Q E s) : Ok prog w A O s t z :=
  someE e fun Q E hQ => k Q E fun _ _ => hQ _ _ (Kp.toks _ _) (.str _ _)
theorem Ok.byt {t : Sem Value} {c : Array UInt8} {z : PV} (e : some (PV.byt c) = some z) (k : ∀ Q E, (∀ tk u, Q (.bytes c tk) { s with toks := u }) → wpAny (model prog w) A t Q E s) : Ok prog w A O s t z :=
  someE e fun Q E hQ => k Q E fun _ _ => hQ _ _ (Kp.toks _ _) (.byt _ _)

theorem big_log2 {a : Int} (h : big a = true) : a.natAbs.log2 < 512 := by
  have h' := of_decide_eq_true h
  by_cases h0 : a.natAbs = 0
  · rw [h0]; decide +kernel
  · exact (Nat.log2_lt h0).mpr h'
theorem big_bits {a : Int} (h : big a = true) : Builtin.Int.intBits a ≤ 2 ^ 20 := by
  have h' := big_log2 h
  unfold Builtin.Int.intBits
  split
  · exact Nat.zero_le _
  · exact Nat.le_trans (Nat.succ_le_of_lt h') (by decide)
theorem big_pylong {a : Int} (h : big a = true) : a.natAbs.log2 < 9000 := Nat.lt_trans (big_log2 h) (by decide)
theorem room_lt {n : Nat} (h : room n = true) : n < 4096 := of_decide_eq_true h
theorem room63 {n : Nat} (h : room n = true) : n < 2 ^ 63 := Nat.lt_trans (room_lt h) (by decide)
theorem room_line {n : Nat} (h : room n = true) : n ≤ sizeLine := Nat.le_trans (Nat.le_of_lt (room_lt h)) (by decide)

theorem Rep.newList {vs : List Value} {ds : List PV} (h : RepL O s.heap vs ds) (hO : Alive O s.heap) : Rep O (s.heap.push { cls := .type "list", data := .seq vs.toArray }) (.ref s.heap.objs.size) (.lst ds) :=
  .lst (hO.new (get_size _)) ⟨_, Heap.get?_push_size _ rfl, rfl, _, rfl⟩ (h.heap fun _ _ e => Heap.get?_push_of_some _ e)
theorem Rep.newTup {vs : List Value} {ds : List PV} (h : RepL O s.heap vs ds) (hO : Alive O s.heap) : Rep O (s.heap.push { cls := .type "tuple", data := .seq vs.toArray }) (.ref s.heap.objs.size) (.tup ds) :=
  .tup (hO.new (get_size _)) ⟨_, Heap.get?_push_size _ rfl, rfl, _, rfl⟩ (h.heap fun _ _ e => Heap.get?_push_of_some _ e)

theorem add_lists' {l b : Addr} {vs ws : List Value} {Q E : Value → Shared → Prop} (hl : s.heap.IsList l vs.toArray) (hb : s.heap.IsList b ws.toArray)
    (h : Q (.ref s.heap.objs.size) { s with heap := s.heap.push { cls := .type "list", data := .seq (vs ++ ws).toArray } }) (hsz : vs.length + ws.length ≤ sizeLine) :
    wpAny (model prog w) A (binaryOp .Add (.ref l) (.ref b)) Q E s := by
  obtain ⟨⟨cls, dd, data, sl⟩, ho, hc, n, hd⟩ := id hl
  obtain ⟨⟨cls2, dd2, data2, sl2⟩, ho2, hc2, n2, hd2⟩ := id hb
  cases hc
  cases hd
  cases hc2
  cases hd2
  exact concat_meets ⟨_, ho, rfl⟩ ⟨_, ho2, rfl⟩ noFill_list_add seq_list_add PySem.F.slot_list_add PySem.F.entry_list_add (PySem.F.args_list_add_2 _ _) (list_addW l b vs.toArray ws.toArray n n2 dd dd2 sl sl2 hsz) ⟨ho, ho2, (List.append_toArray vs ws).symm ▸ h⟩

theorem add_ok {a b : Value} {x y z : PV} (hx : Rep O s.heap a x) (hy : Rep O s.heap b y) (hO : Alive O s.heap) (h : addP x y = some z) : Ok prog w A O s (binaryOp .Add a b) z := by
  cases hx with
  | int i t => exact bindE h fun j hj h => hy.intE hj fun u => .int h fun Q E q => add_int (q _ _)
  | str i t => exact bindE h fun j hj h => ifE h fun hr h => hy.strE hj fun u => .str h fun Q E q => add_str q (room_line hr)
  | byt i t => exact bindE h fun j hj h => ifE h fun hr h => hy.bytE hj fun u => .byt h fun Q E q => PySem.W.KBy.add_bytes (room_line hr) q
  | lst ha hl r => exact bindE h fun j hj h => ifE h fun hr h => hy.lstE hj fun c us hc hl' r' => someE h fun Q E q => add_lists' hl hl' (q _ _ (Kp.push _ _) (.newList (r.append r') hO)) (by rw [r.length, r'.length]; exact room_line hr)
  | _ => exact none_some h
theorem bin_ok {op : Operator} {a b : Value} {x y z : PV} (hx : Rep O s.heap a x) (hy : Rep O s.heap b y) (hO : Alive O s.heap) (h : binP op x y = some z) :
    Ok prog w A O s (binaryOp op a b) z := by
  cases op with
  | Add => exact add_ok hx hy hO h
  | Sub => exact hx.ints2 hy h fun i j t u h => .int h fun Q E q => sub_int (q _ _)
  | Mult => exact hx.ints2 hy h fun i j t u h => ifE h fun hb h => .int h fun Q E q => mul_int (q _ _) (IntMulOk.of_bits (big_bits (and1 hb)) (big_bits (and2 hb)))
  | Mod => exact hx.ints2 hy h fun i j t u h => ifE h fun hb h => .int h fun Q E q => mod_int' hb (q _ _)
  | FloorDiv => exact hx.ints2 hy h fun i j t u h => ifE h fun h0 h => ifE h fun hb h => .int h fun Q E q => floordiv_int h0 (q _ _) (Or.inl (PyProof.noPylong_of_log2 (big_pylong hb)))
  | RShift => exact hx.ints2 hy h fun i j t u h => ifE h fun hb h => .int h fun Q E q => rshift_int hb (q _ _)
  | BitAnd => exact hx.ints2 hy h fun i j t u h => .int h fun Q E q => and_int (q _ _)
  | BitXor => exact hx.ints2 hy h fun i j t u h => .int h fun Q E q => xor_int (q _ _)
  | _ => exact none_some h

theorem truth_ok {v : Value} {x : PV} {b : Bool} (hx : Rep O s.heap v x) (h : truthP x = some b) : OkB prog w A s (truthy v) b := by
  cases hx with
  | bool i => exact someE h fun Q E hQ => wpAny_truthy_bool (hQ _ (Kp.refl s))
  | int i t => exact someE h fun Q E hQ => P.truthy_int (hQ _ (Kp.refl s))
  | str i t => exact ifE h fun hr h => someE h fun Q E hQ => P.truthy_str (fun c => Nat.not_le.mpr (room63 hr) (Int.ofNat_le.mp c)) (hQ _ (Kp.toks _ _))
  | lst ha hl r => exact ifE h fun hr h => someE h fun Q E hQ => wpAny_truthy_list hl (by rw [List.size_toArray, r.length]; exact Int.ofNat_lt.mpr (room63 hr)) (r.empty ▸ hQ _ (Kp.toks _ _))
  | _ => exact none_some h

theorem cmp_lists {op : CmpOp} {f : List Int → List Int → Bool} {a b : Value} {x y : PV} {z : Bool} (hx : Rep O s.heap a x) (hy : Rep O s.heap b y) (h : lsls x y f = some z)
    (k : ∀ {l c vs ws i j} {Q E : Value → Shared → Prop}, s.heap.IsList l (List.toArray vs) → IntsAre vs i → s.heap.IsList c (List.toArray ws) → IntsAre ws j → Q (.bool (f i j)) s → wpAny (model prog w) A (compareOp op (.ref l) (.ref c)) Q E s) :
    Ok prog w A O s (compareOp op a b) (.bool z) :=
  bindE h fun xs h1 h => bindE h fun ys h2 h => bindE h fun i hi h => bindE h fun j hj h => ifE h fun _ h => someE h <| hx.lstE (P := fun a => Ok prog w A O s (compareOp op a b) (.bool (f i j))) h1 fun _ _ _ hl r => hy.lstE h2 fun _ _ _ hl' r' =>
    fun Q E q => k hl (r.ints hi) hl' (r'.ints hj) (q _ _ (Kp.refl s) (.bool _))
theorem Ok.yes {t : Sem Value} {c z : Bool} (e : some c = some z) (k : ∀ Q E, Q (.bool c) s → wpAny (model prog w) A t Q E s) : Ok prog w A O s t (.bool z) :=
  someE (Q := fun z => Ok prog w A O s t (.bool z)) e fun Q E hQ => k Q E (hQ _ _ (Kp.refl s) (.bool _))
theorem in_ok {a b : Value} {x y : PV} {z : Bool} (hx : Rep O s.heap a x) (hy : Rep O s.heap b y) (h : inP x y = some z) : Ok prog w A O s (compareOp .In a b) (.bool z) := by
  cases hx with
  | int i t =>
    cases hy with
    | lst ha hl r => exact bindE h fun l hi h => ifE h fun _ h => .yes h fun Q E q => in_list_ints hl (r.ints hi) q
    | tup ha hl r => exact bindE h fun l hi h => ifE h fun _ h => .yes h fun Q E q => in_tuple_ints hl (r.ints hi) q
    | _ => exact none_some h
  | str i t => exact bindE h fun ys hy' h => bindE h fun l hi h => ifE h fun _ h => hy.lstE hy' fun _ _ _ hl r => .yes h fun Q E q => in_list_strs hl (r.strs hi) q
  | _ => exact none_some h
theorem cmp_ok {op : CmpOp} {a b : Value} {x y : PV} {z : Bool} (hA : A.units + 64 < cLine) (hx : Rep O s.heap a x) (hy : Rep O s.heap b y) (h : cmpP op x y = some z) :
    Ok prog w A O s (compareOp op a b) (.bool z) := by
  cases op with
  | Eq => cases hx with
    | int i t => exact bindE h fun j hj h => hy.intE hj fun u => .yes h fun Q E q => eq_int q
    | str i t => exact bindE h fun j hj h => hy.strE hj fun u => .yes h fun Q E q => eq_str q
    | lst ha hl r => exact cmp_lists (.lst ha hl r) hy h fun a b c d q => eq_intsK a b c d hA q
    | _ => exact none_some h
  | NotEq => cases hx with
    | int i t => exact bindE h fun j hj h => hy.intE hj fun u => .yes h fun Q E q => ne_int q
    | lst ha hl r => exact cmp_lists (.lst ha hl r) hy h fun a b c d q => ne_intsK a b c d hA q
    | _ => exact none_some h
  | Lt => exact hx.ints2 hy h fun i j t u h => .yes h fun Q E q => lt_int q
  | Gt => exact hx.ints2 hy h fun i j t u h => .yes h fun Q E q => gt_int q
  | GtE => exact hx.ints2 hy h fun i j t u h => .yes h fun Q E q => ge_int q
  | In => exact in_ok hx hy h
  | NotIn => exact bindE h fun i hi h => bindE h fun ys h2 h => bindE h fun l hl' h => ifE h fun _ h => hx.intE (P := fun a => Ok prog w A O s (compareOp .NotIn a b) (.bool z)) hi fun t => hy.lstE h2 fun _ _ _ hl r => .yes h fun Q E q => notin_list_ints hl (r.ints hl') q
  | _ => exact none_some h
end
end Mine
end

-- Q2
section
open PySem PyProof.Rows PySem.Calls PySem.Spec PySem.W
set_option maxRecDepth 100000
set_option autoImplicit false
namespace Mine
section
variable {prog : Program} {w : World} {A : Around} {O : List Addr} {s : Shared}

theorem seqIndex_nat {i : Int} {n : Nat} (h0 : 0 ≤ i) (h1 : i.toNat < n) : seqIndex? i n = some i.toNat := by
  have e : (if i < 0 then i + n else i) = i := if_neg (Int.not_lt.mpr h0)
  have h2 : i < n := Int.toNat_of_nonneg h0 ▸ Int.ofNat_lt.mpr h1
  show (if decide (0 ≤ (if i < 0 then i + n else i)) && decide ((if i < 0 then i + n else i) < (n : Int)) then some (if i < 0 then i + n else i).toNat else none) = _
  rw [e, decide_eq_true h0, decide_eq_true h2]; rfl
theorem lt_of_get {α : Type} {l : List α} {k : Nat} {x : α} (h : l[k]? = some x) : k < l.length := (List.getElem?_eq_some_iff.mp h).1

/-- no slice: the item is asked for as it is -/
noncomputable def PlainSub (slice : Expr) : Prop := ∀ o i : Value, subscripted slice false o i = operate [o, i] (getItem o i)
theorem idx_ok {value slice : Expr} {o : Value} {x z : PV} {k : Int} {u : Tok} (hs : PlainSub slice) (hx : Rep O s.heap o x) (h : idxP x k = some z) :
    Ok prog w A O s (subscriptTail value slice o (.int k u)) z := by
  intro Q E hQ
  cases hx with
  | lst ha hl r =>
    refine ifE h fun hk h => ?_
    obtain ⟨v, hv, rv⟩ := r.get h
    exact tail_any hl.typeIs slot_list_getitem.lookup (wpAny_getItem_list hl hk.1 (Int.lt_of_lt_of_le hk.2 (by decide)) (List.getElem?_toArray ▸ hv) (hQ _ _ (Kp.refl s) rv)) (hs _ _)
  | tup ha hl r =>
    refine ifE h fun hk h => ?_
    obtain ⟨v, hv, rv⟩ := r.get h
    exact tail_any hl.typeIs slot_tuple_getitem.lookup (getItem_tuple hl (Int.le_trans (by decide) hk.1) (Int.lt_of_lt_of_le hk.2 (by decide)) (seqIndex_nat hk.1 (lt_of_get hv)) (List.getElem?_toArray ▸ hv) (hQ _ _ (Kp.refl s) rv)) (hs _ _)
  | str x t => exact ifE h fun hk h => bindE h fun c hc h => tail_any (typeIs_str s _ _) PySem.F.slot_str_getitem.lookup (P.getItem_str (Bool.or_eq_false_iff.mpr ⟨decide_eq_false (Int.not_lt.mpr (Int.le_trans (by decide) hk.1)), decide_eq_false (Int.not_le.mpr (Int.lt_of_lt_of_le hk.2 (by decide)))⟩) hc (hQ _ _ (Kp.toks _ _) (Option.some.inj h ▸ .str _ _))) (hs _ _)
  | byt x t => exact ifE h fun hk h => bindE h fun c hc h => tail_any (typeIs_bytes s _ _) FB.slot_bytes_getitem.lookup (getItem_gives (typeIs_bytes s _ _) (by decide) FB.slot_bytes_getitem FB.entry_bytes_getitem (FB.args_bytes_getitem_2 _ _) (gives_bytes_getitem _ k _ u c (Bool.and_eq_true_iff.mpr ⟨decide_eq_true (Int.le_trans (by decide) hk.1), decide_eq_true (Int.lt_of_lt_of_le hk.2 (by decide))⟩) hc) (hQ _ _ (Kp.toks _ _) (Option.some.inj h ▸ .int _ _))) (hs _ _)
  | _ => exact none_some h

theorem RepL.cut {h : Heap} {vs : List Value} {ds : List PV} (r : RepL O h vs ds) (lo hi : Option Int) : RepL O h (cutP lo hi vs) (cutP lo hi ds) := by
  unfold cutP
  rw [r.length]
  exact (r.drop _).take _

theorem strIdx (n : Nat) (lo hi : Option Int) : Builtin.Str.strSliceIndices lo hi 1 n = sliceRange ((lo.elim 0 (clipAt n) : Nat) : Int) ((hi.elim n (clipAt n) : Nat) : Int) 1 := by
  unfold Builtin.Str.strSliceIndices
  cases lo <;> cases hi <;> simp [clipAt_cast]
theorem pick_str (x : Str) (lo hi : Option Int) : ((Builtin.Str.strSliceIndices lo hi 1 x.length).filterMap (x.cps[·]?)) = cutP lo hi x.cps.toList := by
  rw [strIdx, sliceRange_one, pick_run]
  unfold cutP
  rw [Array.length_toList]
  rfl
theorem clip_le (n : Nat) (i : Int) : clipAt n i ≤ n := by
  have := clipAt_cast n i
  omega
theorem cut_all {α : Type} {l : List α} {p q n : Nat} (hl : l.length = n) (hq : q ≤ n) (h : q - p = n) : (l.drop p).take (q - p) = l := by
  cases n with
  | zero => rw [List.eq_nil_of_length_eq_zero hl, List.drop_nil, List.take_nil]
  | succ n =>
    have hp : p = 0 := by omega
    subst hp
    rw [List.drop_zero, List.take_of_length_le (by omega)]
theorem sl_str {x : Str} {t : Tok} {a : Addr} {l u : Option (Int × Tok)} {Q E : Value → Shared → Prop} (hs : s.heap.IsSlice a l u none) (hr : room x.length = true)
    (h : ∀ t' k, Q (.str ⟨(cutP (l.map (·.1)) (u.map (·.1)) x.cps.toList).toArray⟩ t') { s with toks := k }) : wpAny (model prog w) A (getItem (.str x t) (.ref a)) Q E s := by
  refine wpAny_getItem_str_slice hs rfl ?_
  have e := pick_str x (l.map (·.1)) (u.map (·.1))
  unfold sliceMade slicePicked
  split
  · rename_i hc
    have e2 : cutP (l.map (·.1)) (u.map (·.1)) x.cps.toList = x.cps.toList := by
      have hw := beq_iff_eq.mp (and2 hc)
      rw [show ((Option.map (·.1) (none : Option (Int × Tok))).getD 1) = 1 from rfl, strIdx, sliceRange_one, List.length_map, List.length_range] at hw
      have hn : x.cps.toList.length = x.length := Array.length_toList
      unfold cutP
      rw [hn]
      refine cut_all hn ?_ hw
      cases u with
      | none => exact Nat.le_refl _
      | some u => exact clip_le _ _
    exact (congrArg (fun y => Q (.str ⟨y.toArray⟩ t) s) e2).mp (h t s.toks)
  · rw [show ((Option.map (·.1) (none : Option (Int × Tok))).getD 1) = 1 from rfl, e]
    refine ⟨Nat.le_trans ?_ (room_line hr), h _ _⟩
    show (cutP (l.map (·.1)) (u.map (·.1)) x.cps.toList).toArray.size ≤ _
    rw [List.size_toArray]
    exact Nat.le_trans (List.length_take_le' ..) (Nat.le_trans (List.length_drop ▸ Nat.sub_le ..) (Nat.le_of_eq Array.length_toList))
end
end Mine
end

-- Q3
section
open PySem PyProof.Rows PySem.Calls PySem.Spec PySem.W
set_option maxRecDepth 100000
set_option autoImplicit false
namespace Mine
section
variable {prog : Program} {w : World} {A : Around} {O : List Addr} {s : Shared}

theorem slice_at {h : Heap} {a : Addr} {vl vu : Value} {l u : Option Int} (hl : IsPart vl l) (hu : IsPart vu u) (ha : h.IsSliceOf a vl vu .none) : ∃ l' u' : Option (Int × Tok), h.IsSlice a l' u' none ∧ l'.map (·.1) = l ∧ u'.map (·.1) = u := by
  obtain ⟨o, h1, h2, h3⟩ := ha
  have part : ∀ {v : Value} {l : Option Int}, IsPart v l → ∃ l' : Option (Int × Tok), v = partValue l' ∧ l'.map (·.1) = l := fun p => by
    cases p with
    | none => exact ⟨none, rfl, rfl⟩
    | int i t => exact ⟨some (i, t), rfl, rfl⟩
  obtain ⟨l', rfl, e1⟩ := part hl
  obtain ⟨u', rfl, e2⟩ := part hu
  exact ⟨l', u', ⟨o, h1, h2, h3⟩, e1, e2⟩
theorem get_above (h : Heap) : h.get? (h.objs.size + 1) = none := new_ge (Nat.le_succ _)

theorem sl_list {value : Expr} {lo hi : Option Expr} {p : Pos} {o vl vu : Value} {x z : PV} {l u : Option Int} {a : Addr} (hO : Alive O s.heap) (hl : IsPart vl l) (hu : IsPart vu u) (ha : s.heap.IsSliceOf a vl vu .none)
    (hx : Rep O s.heap o x) (h : slP x l u = some z) : Ok prog w A O s (subscriptTail value (.Slice lo hi none p) o (.ref a)) z := by
  cases hx with
  | lst hb hll r =>
    refine ifE h fun hr h => someE h fun Q E hQ => tail_any (ops := [.ref a, _]) hll.typeIs slot_list_getitem.lookup (wpAny_getItem_list_slice hll ha hl hu .none (fun e => nomatch e) ?_ (by rw [List.size_toArray, r.length]; exact room_line hr)) rfl
    rw [slicePick_plain]
    exact hQ _ _ (Kp.push _ _) (.newList (r.cut l u) hO)
  | str x' t =>
    refine ifE h fun hr h => someE h fun Q E hQ => ?_
    obtain ⟨l', u', hs, rfl, rfl⟩ := slice_at hl hu ha
    exact tail_any (ops := [.ref a, _]) (typeIs_str s _ _) PySem.F.slot_str_getitem.lookup (sl_str hs hr fun t' k => hQ _ _ (Kp.toks _ _) (.str _ _)) rfl
  | byt x' t =>
    refine ifE h fun hr h => someE h fun Q E hQ => tail_any (ops := [.ref a, _]) (typeIs_bytes s _ _) FB.slot_bytes_getitem.lookup (getItem_meets (typeIs_bytes s _ _) (by decide) FB.slot_bytes_getitem FB.entry_bytes_getitem (FB.args_bytes_getitem_2 _ _) (KBc.meets_slice2 _ t a hl hu) ⟨ha, Nat.le_trans (KBc.size_picked_le _ l u) (room_line hr), fun t' k => ?_⟩) rfl
    show Q _ _
    rw [KBc.picked_eq]
    exact hQ _ _ (Kp.toks _ _) (.byt _ _)
  | _ => exact none_some h

theorem Rep.ints {vs : List Value} {l : List Int} (h : IntsAre vs l) : RepL O s.heap vs (l.map .int) := RepL.ofInts h

theorem perm_insertP (x : Int) : ∀ l : List Int, (insertP x l).Perm (x :: l)
  | [] => .refl _
  | y :: r => by
    unfold insertP
    split
    · exact .refl _
    · exact ((perm_insertP x r).cons y).trans (.swap x y r)
theorem perm_sortP : ∀ l : List Int, (sortP l).Perm l
  | [] => .refl _
  | x :: r => by
    unfold sortP
    exact (perm_insertP x _).trans ((perm_sortP r).cons x)
theorem sorted_insertP (x : Int) : ∀ l : List Int, l.Pairwise (· ≤ ·) → (insertP x l).Pairwise (· ≤ ·)
  | [], _ => by simp [insertP]
  | y :: r, h => by
    unfold insertP
    obtain ⟨h1, h2⟩ := List.pairwise_cons.mp h
    split
    · rename_i c
      refine List.pairwise_cons.mpr ⟨fun z hz => ?_, h⟩
      rcases List.mem_cons.mp hz with rfl | hz
      · omega
      · have := h1 z hz; omega
    · refine List.pairwise_cons.mpr ⟨fun z hz => ?_, sorted_insertP x r h2⟩
      rcases List.mem_cons.mp ((perm_insertP x r).mem_iff.mp hz) with rfl | hz
      · omega
      · exact h1 z hz
theorem sorted_sortP : ∀ l : List Int, (sortP l).Pairwise (· ≤ ·)
  | [] => .nil
  | x :: r => by unfold sortP; exact sorted_insertP x _ (sorted_sortP r)
theorem sorted_unique : ∀ {a b : List Int}, a.Perm b → a.Pairwise (· ≤ ·) → b.Pairwise (· ≤ ·) → a = b
  | [], b, p, _, _ => by rw [List.nil_perm.mp p]
  | x :: a, [], p, _, _ => by cases List.perm_nil.mp p
  | x :: a, y :: b, p, ha, hb => by
    obtain ⟨h1, h2⟩ := List.pairwise_cons.mp ha
    obtain ⟨h3, h4⟩ := List.pairwise_cons.mp hb
    have e : x = y := by
      have hx : x ∈ y :: b := p.mem_iff.mp (List.mem_cons_self ..)
      have hy : y ∈ x :: a := p.mem_iff.mpr (List.mem_cons_self ..)
      rcases List.mem_cons.mp hx with e | hx
      · exact e
      · rcases List.mem_cons.mp hy with e | hy
        · exact e.symm
        · have := h1 y hy; have := h3 x hx; omega
    subst e
    rw [sorted_unique ((List.perm_cons x).mp p) h2 h4]

/-- what a built-in's name stands for -/
noncomputable def biVal (b : BI) : Value := BI.casesOn (motive := fun _ => Value) b (.builtin "sum") (.builtin "len") (.builtin "abs") (.type "int") (.builtin "divmod") (.builtin "chr") (.builtin "ord") (.builtin "min") (.builtin "max") (.builtin "sorted") (.type "list")

@[elab_as_elim] theorem RepL.nilE {h : Heap} {vs : List Value} {P : List Value → Prop} (r : RepL O h vs []) (k : P []) : P vs := by cases r; exact k
@[elab_as_elim] theorem RepL.consE {h : Heap} {vs : List Value} {d : PV} {ds : List PV} {P : List Value → Prop} (r : RepL O h vs (d :: ds)) (k : ∀ v us, Rep O h v d → RepL O h us ds → P (v :: us)) : P vs := by cases r with | cons a b => exact k _ _ a b
@[elab_as_elim] theorem RepL.oneE {h : Heap} {vs : List Value} {d : PV} {P : List Value → Prop} (r : RepL O h vs [d]) (k : ∀ v, Rep O h v d → P [v]) : P vs := r.consE fun v _ a r => r.nilE (k v a)
@[elab_as_elim] theorem RepL.twoE {h : Heap} {vs : List Value} {d e : PV} {P : List Value → Prop} (r : RepL O h vs [d, e]) (k : ∀ v u, Rep O h v d → Rep O h u e → P [v, u]) : P vs := r.consE fun v _ a r => r.oneE fun u b => k v u a b

theorem sum_ok {l : Addr} {vs : List Value} {ns : List Int} {Q E : Value → Shared → Prop} (hh : A.handled = none) (hl : s.heap.IsList l vs.toArray) (hi : IntsAre vs ns)
    (h : ∀ h' tk t', (∀ b o, s.heap.get? b = some o → h'.get? b = some o) → Q (.int ns.sum t') { s with heap := h', toks := tk }) :
    wpAny (model prog w) A (call (.builtin "sum") [.ref l]) Q E s := by
  obtain ⟨xs, hx⟩ := hi.allInts.items
  have hn : numsOf vs.toArray.toList = ns := by rw [show vs.toArray.toList = vs from rfl, hi.numsOf]
  rw [hx] at hl hn
  rw [nums_intItems] at hn
  refine sum_intListG hh hl fun h' tk t' hk => ?_
  have := h h' tk t' hk
  rw [preSum_eq, List.take_of_length_le (by simp), hn]
  exact this

theorem gt_int_rc {a b : Int} {t u : Tok} {Q E : Value → Shared → Prop} (h : Q (.bool (decide (b < a))) s) : wpAny (model prog w) A (richCompare .Gt (.int a t) (.int b u)) Q E s :=
  richCompare_gives (op := .Gt) (typeIs_int s _ t) (typeIs_int s _ u) F.slot_int_gt F.entry_int_gt (F.args_int_gt_2 _ _) (gives_int_gt _ _ t u) (fun x => nomatch x) h
theorem gt_pair_tree {a b : Addr} {i j k l : Int} {t1 t2 t3 t4 : Tok} {P : Fin → Shared → Prop} {E : Value → Shared → Prop} (ha : s.heap.IsTuple a #[.int i t1, .int j t2]) (hb : s.heap.IsTuple b #[.int k t3, .int l t4])
    (h : P (.done (.ret (.bool (lexLt (k, l) (i, j))))) s) : wpAny (model prog w) A (Builtin.«tuple.__gt__» ⟨[.ref a, .ref b], []⟩) P E s := by
  have hTb := hb.typeIs
  obtain ⟨oa, hoa, _, na, hda⟩ := ha
  obtain ⟨ob, hob, _, nb, hdb⟩ := hb
  show wpAny _ _ (isInstance (.ref b) (.type "tuple") >>= _) _ _ s
  refine wpAny_bind (wpAny_isInstance hTb isSubtype_tuple_tuple ?_)
  simp only [Bool.not_true, Bool.false_eq_true, if_false]
  refine wpAny_bind (wpAny_tupleItemsOf hoa hda ?_)
  refine wpAny_bind (wpAny_tupleItemsOf hob hdb ?_)
  refine wpAny_bind ?_
  simp only [List.zip_cons_cons, List.zip_nil_left, List.forIn_cons]
  refine wpAny_bind (wpAny_bind (wpAny_eqBool_int ?_))
  by_cases e1 : i = k
  · subst e1
    rw [show (i == i) = true from by simp]
    simp only [Bool.not_true, Bool.false_eq_true, if_false]
    refine wpAny_pure ?_
    refine wpAny_bind (wpAny_bind (wpAny_eqBool_int ?_))
    by_cases e2 : j = l
    · subst e2
      rw [show (j == j) = true from by simp]
      simp only [Bool.not_true, Bool.false_eq_true, if_false]
      refine wpAny_pure (wpAny_pure (wpAny_pure ?_))
      have : lexLt (i, j) (i, j) = false := by simp [lexLt]
      rw [this] at h
      exact h
    · rw [show (j == l) = false from by simpa using e2]
      simp only [Bool.not_false, if_true]
      refine wpAny_bind (wpAny_rule (wpAny_bind (gt_int_rc ?_)))
      refine wpAny_bind (wpAny_pure (wpAny_pure (wpAny_pure (wpAny_pure ?_))))
      have : lexLt (i, l) (i, j) = decide (l < j) := by simp [lexLt]
      rw [this] at h
      exact h
  · rw [show (i == k) = false from by simpa using e1]
    simp only [Bool.not_false, if_true]
    refine wpAny_bind (wpAny_rule (wpAny_bind (gt_int_rc ?_)))
    refine wpAny_bind (wpAny_pure (wpAny_pure (wpAny_pure (wpAny_pure ?_))))
    have : lexLt (k, l) (i, j) = decide (k < i) := by simp [lexLt, Ne.symm e1]
    rw [this] at h
    exact h
theorem gt_pair {a b : Addr} {i j k l : Int} {t1 t2 t3 t4 : Tok} {Q E : Value → Shared → Prop} (hu : A.units < cLine) (ha : s.heap.IsTuple a #[.int i t1, .int j t2]) (hb : s.heap.IsTuple b #[.int k t3, .int l t4])
    (h : Q (.bool (lexLt (k, l) (i, j))) s) : wpAny (model prog w) A (richCompare .Gt (.ref a) (.ref b)) Q E s :=
  wpAny_richCompare_same_room (op := .Gt) ha.typeIs hb.typeIs F.slot_tuple_gt
    (wpAny_call_entry F.slot_tuple_gt ha.typeIs F.entry_tuple_gt (gt_pair_tree ha hb ⟨_, rfl, (fun e => nomatch e), h⟩) (F.args_tuple_gt_2 _ _)) hu
noncomputable def pairPV (p : Int × Int) : PV := .tup [.int p.1, .int p.2]
theorem pairsOf_map : ∀ {ds : List PV} {l : List (Int × Int)}, pairsOf ds = some l → ds = l.map pairPV
  | [], _, h => Option.some.inj h ▸ rfl
  | d :: ds, l, h => bindE h fun xs hx h => t?E (P := fun d => d :: ds = l.map pairPV) hx (arg2E (P := fun xs => .tup xs :: ds = l.map pairPV) h fun x y h => iiE (P := fun x y => .tup [x, y] :: ds = l.map pairPV) h fun i j h => bindE h fun r hr h => Option.some.inj h ▸ congrArg (pairPV (i, j) :: ·) (pairsOf_map hr))
theorem pair_of {h : Heap} {v : Value} {p : Int × Int} (r : Rep O h v (pairPV p)) : ∃ a t u, v = .ref a ∧ h.IsTuple a #[.int p.1 t, .int p.2 u] :=
  r.tupE rfl fun a _ _ ht rs => rs.twoE (P := fun vs => h.IsTuple a vs.toArray → ∃ b t u, Value.ref a = .ref b ∧ h.IsTuple b #[.int p.1 t, .int p.2 u]) (fun v u hv hu => hv.intE (P := fun v => h.IsTuple a #[v, u] → _) rfl fun t => hu.intE (P := fun u => h.IsTuple a #[.int p.1 t, u] → _) rfl fun t' ht => ⟨a, t, t', rfl, ht⟩) ht
theorem max_loop_pairs {I l S : Addr} {vs : List Value} {R : Result → Shared → Prop} (hh : A.handled = none) (hu : A.in1.units < cLine) (hl : s.heap.IsList l vs.toArray) (hI : s.heap.get? I = none) (hS : s.heap.get? S = none) (hIS : I ≠ S) :
    ∀ (rest : List (Int × Int)) (us : List Value) (i : Nat) (m : Int × Int) (vb : Value) (h : Heap) (tk c : Nat), vs.drop i = us → RepL O s.heap us (rest.map pairPV) → Rep O s.heap vb (pairPV m) → (∀ b o, s.heap.get? b = some o → h.get? b = some o) →
      h.IsListIter I l i → h.get? S = some { cls := .type "list", dict := none, data := .seq #[vb, vb] c, slots := #[] } →
      (∀ v h' tk, Rep O s.heap v (pairPV (maxPairs m rest)) → (∀ b o, s.heap.get? b = some o → h'.get? b = some o) → R (.ok (.ret v)) { s with heap := h', toks := tk }) →
      codeAny (model prog w) A (.builtin "max.loop" ⟨[.ref I, .none, .ref S], []⟩) R { s with heap := h, toks := tk } := by
  have hname : (toString "max" ++ toString ".loop" : String) = "max.loop" := by decide
  intro rest
  induction rest with
  | nil =>
    intro us i m vb h tk c hd hr hb hk hit hs hR
    cases hr
    refine codeAny_builtin F.entry_max_loop ?_
    rw [Around.under_plainId F.plain_max_loop _]
    show wpAny _ A.in1 (seqItems? (.ref S) >>= _) _ _ _
    refine wpAny_bind (wpAny_seqItems hs rfl ?_)
    show wpAny _ A.in1 (tryCatch (pyNext (.ref I)) _ >>= _) _ _ _
    refine wpAny_bind (wpAny_tryCatch (wpAny_pyNext_list_end (s := { s with heap := h, toks := tk }) hh hit (Heap.IsList.at hl fun o e => hk _ o e) (by simpa using List.drop_eq_nil_iff.mp hd) fun h' he' => ?_))
    have hs' := he' S _ (Ne.symm hIS) hs
    show wpAny _ A.in1 (updateSeq S (fun _ => #[]) >>= _) _ _ _
    refine wpAny_bind (wpAny_updateSeq hs' rfl (wpAny_bind (wpAny_letGo (wpAny_pure ?_))))
    refine hR vb _ _ hb fun b o e => (Heap.get?_update_other _ _ (fun q => by rw [← q, hS] at e; cases e)).trans (he' b o (fun q => by rw [q, hI] at e; cases e) (hk b o e))
  | cons p rest ih =>
    intro us i m vb h tk c hd hr hb hk hit hs hR
    cases hr with | @cons v us' _ _ r1 hr =>
    have hv : vs[i]? = some v := by
      have := congrArg List.head? hd
      simpa using this
    have hd' : vs.drop (i + 1) = us' := by
      rw [← List.tail_drop, hd]; rfl
    refine codeAny_builtin F.entry_max_loop ?_
    rw [Around.under_plainId F.plain_max_loop _]
    show wpAny _ A.in1 (seqItems? (.ref S) >>= _) _ _ _
    refine wpAny_bind (wpAny_seqItems hs rfl ?_)
    show wpAny _ A.in1 (tryCatch (pyNext (.ref I)) _ >>= _) _ _ _
    refine wpAny_bind (wpAny_tryCatch (wpAny_pyNext_list_item (s := { s with heap := h, toks := tk }) hit (Heap.IsList.at hl fun o e => hk _ o e) (x := v) (by simpa using hv) fun h' hit' hs2 => ?_))
    have hs' := hs2.extBut S _ (Ne.symm hIS) hs
    have hk' : ∀ b o, s.heap.get? b = some o → h'.get? b = some o := fun b o e => hs2.extBut b o (fun q => by rw [q, hI] at e; cases e) (hk b o e)
    obtain ⟨a1, t1, t2, e1, T1⟩ := pair_of (r1.heap hk')
    obtain ⟨a2, t3, t4, e2, T2⟩ := pair_of (hb.heap hk')
    subst e1 e2
    show wpAny _ A.in1 (tryCatch (holding [.ref a1, .ref a1] (richCompare .Gt (.ref a1) (.ref a2) >>= _)) _ >>= _) _ _ _
    refine wpAny_bind (wpAny_tryCatch (wpAny_holding (wpAny_bind (gt_pair (s := { s with heap := h', toks := tk }) hu T1 T2 ?_))))
    refine wpAny_bind (wpAny_holding (wpAny_truthy_bool ?_))
    refine wpAny_bind (wpAny_letGo (wpAny_pure ?_))
    cases hbt : lexLt (m.1, m.2) (p.1, p.2) with
    | true =>
      simp only [if_true]
      refine wpAny_bind ?_
      refine wpAny_updateSeq hs' rfl (wpAny_bind (wpAny_letGo ?_))
      rw [hname]
      refine wpAny_pure ⟨plainId_quiet F.plain_max_loop _, ih us' (i + 1) p (.ref a1) _ _ _ hd' hr r1 (fun b o e => (Heap.get?_update_other _ _ (fun q => by rw [← q, hS] at e; cases e)).trans (hk' b o e)) ?_ (Heap.get?_update_self _ hs' rfl) fun v' h'' tk'' hP hk'' => ?_⟩
      · obtain ⟨o, ho, hc, hd2⟩ := hit'
        exact ⟨o, (Heap.get?_update_other _ _ (Ne.symm hIS)).trans ho, hc, hd2⟩
      · refine hR v' h'' tk'' ?_ hk''
        have : maxPairs m (p :: rest) = maxPairs p rest := by
          show maxPairs (if lexLt m p then p else m) rest = _
          rw [show lexLt m p = true from hbt]; rfl
        rw [this]; exact hP
    | false =>
      simp only [Bool.false_eq_true, if_false]
      refine wpAny_bind (wpAny_letGo ?_)
      rw [hname]
      refine wpAny_pure ⟨plainId_quiet F.plain_max_loop _, ih us' (i + 1) m (.ref a2) _ _ c hd' hr hb hk' hit' hs' fun v' h'' tk'' hP hk'' => ?_⟩
      refine hR v' h'' tk'' ?_ hk''
      have : maxPairs m (p :: rest) = maxPairs m rest := by
        show maxPairs (if lexLt m p then p else m) rest = _
        rw [show lexLt m p = false from hbt]; rfl
      rw [this]; exact hP
theorem max_pairs_ok {l : Addr} {vs : List Value} {ds : List PV} {p : Int × Int} {r : List (Int × Int)} {Q E : Value → Shared → Prop} (hA : AOk 0 A) (hl : s.heap.IsList l vs.toArray) (hr : RepL O s.heap vs ds) (hp : pairsOf ds = some (p :: r))
    (h : ∀ v s', Kp s s' → Rep O s'.heap v (.tup [.int (maxPairs p r).1, .int (maxPairs p r).2]) → Q v s') :
    wpAny (model prog w) A (call (.builtin "max") [.ref l]) Q E s := by
  have hname : (toString "max" ++ toString ".loop" : String) = "max.loop" := by decide
  rw [pairsOf_map hp] at hr
  obtain ⟨v, us, rfl, r1, hr⟩ : ∃ v us, vs = v :: us ∧ Rep O s.heap v (pairPV p) ∧ RepL O s.heap us (r.map pairPV) := hr.consE fun v us a b => ⟨v, us, rfl, a, b⟩
  refine call_function_tree F.kind_max F.plain_max F.entry_max (F.args_max1 _) ?_
  show wpAny _ A.in1 (Builtin.Builtins.bindParams "max" ["key", "default"] 0 ⟨[], []⟩ >>= _) _ _ s
  refine wpAny_bind (wpAny_of_eq (show Builtin.Builtins.bindParams "max" ["key", "default"] 0 ⟨[], []⟩ = pure [none, none] from rfl) ?_)
  refine wpAny_bind (wpAny_pure ?_)
  refine wpAny_bind (wpAny_pyIter_list hl ?_)
  refine wpAny_bind (wpAny_newObj_type ?_)
  rw [hname]
  have hh := hA.handled
  have hu := hA.units
  have hu1 : A.in1.units < cLine := by rw [units_in1]; omega
  have hne : s.heap.objs.size ≠ s.heap.objs.size + 1 := Nat.ne_of_lt (Nat.lt_succ_self _)
  have sz : (s.heap.push { cls := .type "list_iterator", data := .fields #[.ref l, .int 0 0] }).objs.size = s.heap.objs.size + 1 := Heap.size_push ..
  have kI : ∀ b o, s.heap.get? b = some o → ((s.heap.push { cls := .type "list_iterator", data := .fields #[.ref l, .int 0 0] }).push { cls := .type "list", data := .seq #[] }).get? b = some o := fun b o e => Heap.get?_push_of_some _ (Heap.get?_push_of_some _ e)
  have hI : s.heap.get? s.heap.objs.size = none := get_size _
  have hS : s.heap.get? (s.heap.objs.size + 1) = none := by
    cases q : s.heap.get? (s.heap.objs.size + 1) with
    | none => rfl
    | some o => exact absurd (Heap.lt_size q) (by show ¬ (s.heap.objs.size + 1 < s.heap.objs.size); omega)
  have hit0 : (s.heap.push { cls := .type "list_iterator", data := .fields #[.ref l, .int 0 0] }).get? s.heap.objs.size = some { cls := .type "list_iterator", data := .fields #[.ref l, .int 0 0] } := Heap.get?_push_size _ rfl
  have hs0 : ((s.heap.push { cls := .type "list_iterator", data := .fields #[.ref l, .int 0 0] }).push { cls := .type "list", data := .seq #[] }).get? (s.heap.objs.size + 1) = some { cls := .type "list", data := .seq #[] } := by rw [← sz]; exact Heap.get?_push_size _ rfl
  have hit : ((s.heap.push { cls := .type "list_iterator", data := .fields #[.ref l, .int 0 0] }).push { cls := .type "list", data := .seq #[] }).IsListIter s.heap.objs.size l 0 := ⟨_, Heap.get?_push_of_some _ hit0, rfl, rfl⟩
  show wpAny _ A.in1 (Pure.pure _) _ _ _
  refine wpAny_pure ⟨plainId_quiet F.plain_max_loop _, ?_⟩
  rw [sz]
  generalize (s.heap.push { cls := .type "list_iterator", data := .fields #[.ref l, .int 0 0] }).push { cls := .type "list", data := .seq #[] } = h0 at kI hs0 hit ⊢
  refine codeAny_builtin F.entry_max_loop ?_
  rw [Around.under_plainId F.plain_max_loop _]
  show wpAny _ A.in1 (seqItems? (.ref (s.heap.objs.size + 1)) >>= _) _ _ _
  refine wpAny_bind (wpAny_seqItems hs0 rfl ?_)
  show wpAny _ A.in1 (tryCatch (pyNext (.ref s.heap.objs.size)) _ >>= _) _ _ _
  refine wpAny_bind (wpAny_tryCatch (wpAny_pyNext_list_item (s := { s with heap := h0, toks := _ }) hit (Heap.IsList.at hl fun o e => kI _ o e) (x := v) (by simp) fun h' hit' hs2 => ?_))
  have hs' := hs2.extBut _ _ (Ne.symm hne) hs0
  have hk' : ∀ b o, s.heap.get? b = some o → h'.get? b = some o := fun b o e => hs2.extBut b o (fun q => by rw [q, hI] at e; cases e) (kI b o e)
  show wpAny _ A.in1 (updateSeq (s.heap.objs.size + 1) (fun _ => #[v, v]) >>= _) _ _ _
  refine wpAny_bind (wpAny_updateSeq hs' rfl ?_)
  rw [hname]
  refine wpAny_pure ⟨plainId_quiet F.plain_max_loop _, max_loop_pairs (s := s) hh hu1 hl hI hS hne r us 1 p v _ _ _ rfl hr r1 (fun b o e => (Heap.get?_update_other _ _ (fun q => by rw [← q, hS] at e; cases e)).trans (hk' b o e)) ?_ (Heap.get?_update_self _ hs' rfl) fun v' h'' tk'' hP hk'' => ?_⟩
  · obtain ⟨o, ho, hc, hd2⟩ := hit'
    exact ⟨o, (Heap.get?_update_other _ _ (Ne.symm hne)).trans ho, hc, hd2⟩
  · exact h v' _ (Kp.of hk'') (hP.heap hk'')

/-- one argument, a list -/
theorem bi_lst {x : BI} {v : PV} {us : List Value} {z : PV} {f : List PV → Option PV} (r : RepL O s.heap us [v]) (h : v.l?.bind f = some z) (k : ∀ a vs ds, s.heap.IsList a (List.toArray vs) → RepL O s.heap vs ds → f ds = some z → Ok prog w A O s (call (biVal x) [.ref a]) z) : Ok prog w A O s (call (biVal x) us) z :=
  bindE h fun ds hd h => r.oneE fun u ru => ru.lstE (P := fun u => Ok prog w A O s (call (biVal x) [u]) z) hd fun a vs _ hl r => k a vs ds hl r h
theorem bi_int {x : BI} {v : PV} {us : List Value} {z : PV} {f : Int → Option PV} (r : RepL O s.heap us [v]) (h : v.i?.bind f = some z) (k : ∀ i t, f i = some z → Ok prog w A O s (call (biVal x) [.int i t]) z) : Ok prog w A O s (call (biVal x) us) z :=
  bindE h fun i hi h => r.oneE fun u ru => ru.intE (P := fun u => Ok prog w A O s (call (biVal x) [u]) z) hi fun t => k i t h
theorem bi_two {x : BI} {v u : PV} {us : List Value} {z : PV} {f : Int → Int → Option PV} (r : RepL O s.heap us [v, u]) (h : ii v u f = some z) (k : ∀ i j t t', f i j = some z → Ok prog w A O s (call (biVal x) [.int i t, .int j t']) z) : Ok prog w A O s (call (biVal x) us) z :=
  r.twoE fun _ _ ra rb => ra.ints2 (P := fun a b => Ok prog w A O s (call (biVal x) [a, b]) z) rb h k
theorem Ok.grown {t : Sem Value} {c : Int} {z : PV} (e : some (PV.int c) = some z) (k : ∀ Q E, (∀ h' tk t', (∀ b o, s.heap.get? b = some o → h'.get? b = some o) → Q (.int c t') { s with heap := h', toks := tk }) → wpAny (model prog w) A t Q E s) : Ok prog w A O s t z :=
  someE e fun Q E hQ => k Q E fun _ _ _ k => hQ _ _ (Kp.of k) (.int _ _)
theorem len_ok {us : List Value} {ds : List PV} {z : PV} (hr : RepL O s.heap us ds) (h : biP .len ds = some z) : Ok prog w A O s (call (biVal .len) us) z :=
  arg1E (P := fun ds => RepL O s.heap us ds → _) h (fun v h r => r.oneE fun u ru => by
    cases ru with
    | str x t => exact ifE h fun q h => .int h fun Q E k => P.len_str (fun c => Nat.not_le.mpr (room63 q) (Int.ofNat_le.mp c)) (k _ _)
    | lst ha hl r' => exact ifE h fun q h => .int h fun Q E k => call_len_list hl (by rw [List.size_toArray, r'.length]; exact Int.ofNat_lt.mpr (room63 q)) (by rw [List.size_toArray, r'.length]; exact k _ _)
    | _ => exact none_some h) hr
theorem max_ok {us : List Value} {ds : List PV} {z : PV} (hA : AOk 0 A) (hr : RepL O s.heap us ds) (h : biP .max ds = some z) : Ok prog w A O s (call (biVal .max) us) z := by
  cases ds with
  | nil => exact none_some h
  | cons v r => cases r with
    | nil =>
      refine bi_lst hr h fun a vs ds hl r h => bindE h fun l hl' h => ?_
      cases l with
      | nil => exact none_some h
      | cons p q => exact ifE h fun _ h => someE h fun Q E hQ => max_pairs_ok hA hl r hl' hQ
    | cons y r' =>
      have h : arg1 (y :: r') (fun y => ii v y fun a b => some (PV.int (if a < b then b else a))) = some z := h
      refine arg1E (P := fun r => RepL O s.heap us (v :: r) → _) h (fun y h hr => bi_two hr h fun i j t t' h => .grown h fun Q E k => max_two_ints hA.handled fun h' tk g => ?_) hr
      by_cases c : i < j
      · rw [if_pos c] at k ⊢; exact k _ _ _ g
      · rw [if_neg c] at k ⊢; exact k _ _ _ g
theorem min_ok {us : List Value} {ds : List PV} {z : PV} (hA : AOk 0 A) (hr : RepL O s.heap us ds) (h : biP .min ds = some z) : Ok prog w A O s (call (biVal .min) us) z :=
  arg2E (P := fun r => RepL O s.heap us r → _) h (fun x y h hr => bi_two hr h fun i j t t' h => .grown h fun Q E k => min_two_ints hA.handled fun h' tk g => by
        by_cases c : j < i
        · rw [if_pos c] at k ⊢; exact k _ _ _ g
        · rw [if_neg c] at k ⊢; exact k _ _ _ g) hr
theorem sorted_ok {us : List Value} {ds : List PV} {z : PV} (hO : Alive O s.heap) (hr : RepL O s.heap us ds) (h : biP .sorted ds = some z) : Ok prog w A O s (call (biVal .sorted) us) z :=
  arg1E (P := fun r => RepL O s.heap us r → _) h (fun v h hr => bi_lst hr h fun a vs ds hl r h => bindE h fun l hl' h => ifE h fun h64 h => someE h fun Q E hQ => by
    have hi := r.ints hl'
    refine sorted_ints hl hi (hi.length ▸ h64) fun out ns' a1 a2 a3 => ?_
    obtain ⟨e, he⟩ := sortedAll_at s.heap vs out
    have en : ns' = sortP l := sorted_unique (a2.trans (perm_sortP l).symm) a3 (sorted_sortP l)
    exact hQ _ _ (Kp.of' fun b o q => sortedAll_old q) (.lst (hO.new (get_above _)) ⟨_, he, rfl, e, rfl⟩ (RepL.ofInts (en ▸ a1)))) hr
theorem divmod_ok {us : List Value} {ds : List PV} {z : PV} (hO : Alive O s.heap) (hr : RepL O s.heap us ds) (h : biP .divmod ds = some z) : Ok prog w A O s (call (biVal .divmod) us) z :=
  arg2E (P := fun r => RepL O s.heap us r → _) h (fun x y h hr => bi_two hr h fun i j t t' h => ifE h fun h0 h => ifE h fun hb h => someE h fun Q E hQ =>
    divmod_int h0 (hQ _ _ (Kp.pushT _ _ _) (.tup (hO.new (get_size _)) ⟨_, Heap.get?_push_size _ rfl, rfl, _, rfl⟩ (.cons (.int _ _) (.cons (.int _ _) .nil)))) (Or.inl (PyProof.noPylong_of_log2 (big_pylong hb)))) hr
theorem bi_ok {x : BI} {vs : List Value} {ds : List PV} {z : PV} (hA : AOk 0 A) (hO : Alive O s.heap) (hr : RepL O s.heap vs ds) (hx : x ≠ .listRange) (h : biP x ds = some z) :
    Ok prog w A O s (call (biVal x) vs) z := by
  cases x with
  | sum => exact arg1E (P := fun r => RepL O s.heap vs r → _) h (fun v h hr => bi_lst hr h fun a us ds hl r h => bindE h fun l hl' h => ifE h fun _ h => .grown h fun Q E k => sum_ok hA.handled hl (r.ints hl') k) hr
  | len => exact len_ok hr h
  | abs => exact arg1E (P := fun r => RepL O s.heap vs r → _) h (fun v h hr => bi_int hr h fun i t h => .int h fun Q E k => call_abs_int k) hr
  | int => exact arg1E (P := fun r => RepL O s.heap vs r → _) h (fun v h hr => bi_int hr h fun i t h => someE h fun Q E hQ => call_int_int (hQ _ _ (Kp.refl s) (.int _ _))) hr
  | divmod => exact divmod_ok hO hr h
  | chr => exact arg1E (P := fun r => RepL O s.heap vs r → _) h (fun v h hr => bi_int hr h fun i t h => ifE h fun hc h => .str h fun Q E k => chr_of_range hc.1 hc.2 (k _ _)) hr
  | ord => exact arg1E (P := fun r => RepL O s.heap vs r → _) h (fun v h hr => bindE h fun x hx h => hr.oneE fun u ru => ru.strE (P := fun u => Ok prog w A O s (call (biVal .ord) [u]) z) hx fun t => ifE h fun hc h => .int h fun Q E k => ord_of_one hc (k _ _)) hr
  | min => exact min_ok hA hr h
  | max => exact max_ok hA hr h
  | sorted => exact sorted_ok hO hr h
  | listRange => exact absurd rfl hx
end
end Mine
end

-- Q4
section
open PySem PyProof.Rows PySem.Calls PySem.Spec PySem.W
set_option maxRecDepth 100000
set_option autoImplicit false
namespace Mine

/-- the name x reads v -/
noncomputable def Look (env : Env) (h : Heap) (x : Str) (v : Value) : Prop :=
  (env.kindOf x = some .local ∧ ∃ m, h.Ns env.locals m ∧ m x = some v) ∨
  ((env.kindOf x = some .cell ∨ env.kindOf x = some .free) ∧ ∃ c, env.cells.lookup x = some c ∧ h.IsCell c (some v))
theorem Look.heap {env : Env} {h h' : Heap} {x : Str} {v : Value} (l : Look env h x v) (k : ∀ b o, h.get? b = some o → h'.get? b = some o) : Look env h' x v := by
  rcases l with ⟨a, m, n, e⟩ | ⟨a, c, e, i⟩
  · exact .inl ⟨a, m, n.at' fun o q => k _ o q, e⟩
  · exact .inr ⟨a, c, e, i.keeps k⟩

section
variable {prog : Program} {w : World} {A : Around} {O : List Addr} {s : Shared}

noncomputable def dbg (x : Str) : Bool := x == ("__debug__" : Str) || x == ("__classdict__" : Str)
theorem dbg_1 {x : Str} (h : dbg x = false) : (x == ("__debug__" : Str)) = false := (Bool.or_eq_false_iff.mp h).1
theorem dbg_2 {x : Str} (h : dbg x = false) : (x == ("__classdict__" : Str)) = false := (Bool.or_eq_false_iff.mp h).2
theorem load_look {env : Env} {x : Str} {v : Value} {Q E : Value → Shared → Prop} (hk : env.scope.kind = .function) (hd : dbg x = false) (l : Look env s.heap x v) (h : Q v s) : wpAny (model prog w) A (loadName env x) Q E s := by
  rcases l with ⟨a, m, n, e⟩ | ⟨a | a, c, e, i⟩
  · exact wpAny_loadName_local hk a n e h
  · exact wpAny_loadName_cell hk a e i h
  · exact wpAny_loadName_free hk a e i h (dbg_2 hd)
theorem name_look {env : Env} {x : Str} {pos : Pos} {v : Value} {Q E : Value → Shared → Prop} (hk : env.scope.kind = .function) (hd : dbg x = false) (l : Look env s.heap x v) (h : Q v s) : wpAny (model prog w) A (eval (.Name x pos) env) Q E s :=
  wpAny_Name (load_look hk hd l h) (dbg_1 hd)

/-- the frame's own parts stand -/
structure EnvIn (env : Env) (h : Heap) : Prop where
  ns : ∃ m, h.Ns env.locals m
  cell : ∀ n c, (n, c) ∈ env.cells → ∃ v, h.IsCell c v
  apart : env.cells.Pairwise fun x y => x.2 ≠ y.2
theorem ns_not_cell {h : Heap} {a : Addr} {m : Str → Option Value} {v : Option Value} (n : h.Ns a m) (c : h.IsCell a v) : False := by
  obtain ⟨o, es, ep, e, d, _⟩ := n
  obtain ⟨o', e', d'⟩ := c
  rw [e] at e'
  cases e'
  rw [d] at d'
  cases d'
theorem EnvIn.heap {env : Env} {h h' : Heap} (x : EnvIn env h) (k : ∀ b o, h.get? b = some o → h'.get? b = some o) : EnvIn env h' :=
  ⟨let ⟨m, n⟩ := x.ns; ⟨m, n.at' fun o q => k _ o q⟩, fun n c hc => let ⟨v, i⟩ := x.cell n c hc; ⟨v, i.keeps k⟩, x.apart⟩
/-- the frame's own addresses -/
noncomputable def own (env : Env) : List Addr := env.locals :: env.cells.map (·.2)
/-- names that the frame may store -/
noncomputable def Sto (env : Env) (x : Str) : Prop := env.kindOf x = some .local ∨ (env.kindOf x = some .cell ∧ ∃ c, env.cells.lookup x = some c)
theorem store_look {env : Env} {x : Str} {v : Value} {Q : Unit → Shared → Prop} {E : Value → Shared → Prop} (hk : env.scope.kind = .function) (hs : Sto env x) (i : EnvIn env s.heap)
    (h : ∀ h' tk a, (a = env.locals ∨ env.cells.lookup x = some a) → Heap.SameBut a s.heap h' → EnvIn env h' → Look env h' x v → (∀ y u, y ≠ x → Look env s.heap y u → Look env h' y u) → Q () { s with heap := h', toks := tk }) :
    wpAny (model prog w) A (storeName env x v) Q E s := by
  obtain ⟨m, hn⟩ := i.ns
  rcases hs with hl | ⟨hl, c, hc⟩
  · refine wpAny_storeName_local hl hn (fun h' hn' hs' => h h' _ env.locals (.inl rfl) hs' ⟨⟨_, hn'⟩, fun n c hc => ?_, i.apart⟩ (.inl ⟨hl, _, hn', by simp⟩) fun y u hy l => ?_) (by rw [hk]; rfl)
    · obtain ⟨v, ic⟩ := i.cell n c hc
      exact ⟨v, ic.sameBut hs' fun e => ns_not_cell hn (e ▸ ic)⟩
    · rcases l with ⟨a, m', n', e⟩ | ⟨a, c, e, ic⟩
      · refine .inl ⟨a, _, hn', ?_⟩
        rw [if_neg hy]
        obtain ⟨o1, es1, ep1, g1, d1, _, f1⟩ := hn
        obtain ⟨o2, es2, ep2, g2, d2, _, f2⟩ := n'
        rw [g1] at g2; cases g2
        rw [d1] at d2; cases d2
        rw [← f1, f2]; exact e
      · exact .inr ⟨a, c, e, ic.sameBut hs' fun e => ns_not_cell hn (e ▸ ic)⟩
  · obtain ⟨v0, ic⟩ := i.cell x c (mem_of_lookup hc)
    refine wpAny_storeName_cell hk hl hc ic fun h' hc' hs' => h h' s.toks c (.inr hc) hs' ⟨⟨m, hn.sameBut hs' fun e => ns_not_cell hn (e ▸ ic)⟩, fun n c' hc'' => ?_, i.apart⟩ (.inr ⟨.inl hl, c, hc, hc'⟩) fun y u hy l => ?_
    · by_cases e : c' = c
      · subst e; exact ⟨_, hc'⟩
      · obtain ⟨v, ic'⟩ := i.cell n c' hc''
        exact ⟨v, ic'.sameBut hs' e⟩
    · rcases l with ⟨a, m', n', e⟩ | ⟨a, c', e, ic'⟩
      · exact .inl ⟨a, m', n'.sameBut hs' fun e => ns_not_cell n' (e ▸ ic), e⟩
      · exact .inr ⟨a, c', e, ic'.sameBut hs' fun q => hy (name_of_addr i.apart (mem_of_lookup e) (q ▸ mem_of_lookup hc))⟩

/-- the world of the text's globals, as a word of the heap that holds on -/
structure Wd (HP : Heap → Prop) (mg mb : Str → Option Value) : Prop where
  mono : ∀ h h', (∀ b o, h.get? b = some o → h'.get? b = some o) → HP h → HP h'
  g : ∀ h, HP h → h.Ns mainGlobals mg
  b : ∀ h, HP h → h.Ns builtinsNs mb
  lim : ∀ h, HP h → h.NoLimit

/-- the call of f with these arguments gives pv, wherever it stands -/
noncomputable def CallOk (prog : Program) (w : World) (HP : Heap → Prop) (n : Nat) (f : Addr) (args : List PV) (pv : PV) : Prop :=
  ∀ (A : Around) (O : List Addr) (s : Shared) (vs : List Value), AOk n A → HP s.heap → Alive O s.heap → RepL O s.heap vs args → Ok prog w A O s (call (.ref f) vs) pv

noncomputable def biName : BI → Str
  | .sum => "sum" | .len => "len" | .abs => "abs" | .int => "int" | .divmod => "divmod" | .chr => "chr" | .ord => "ord" | .min => "min" | .max => "max" | .sorted => "sorted" | .listRange => "list"
noncomputable def miName : MI → Str
  | .lower => "lower" | .join => "join" | .keys => "keys" | .get => "get"

/-- the methods of a Headers object, and where they lie -/
noncomputable def hTable : List (Str × Addr) := [("keys", 192), ("get", 187), ("_convert_string_type", 139), ("add_header", 237)]
/-- the defs that may be called, and the built-ins' names -/
structure Calls0 (prog : Program) (w : World) (HP : Heap → Prop) (mg mb : Str → Option Value) (fn : Nat → Str) (gl : List (Str × Int)) (n : Nat) (Γ : Nat → List PV → Option PV) : Prop where
  wd : Wd HP mg mb
  def_ : ∀ f, f < 23 → ∀ args pv, Γ f args = some pv → ∃ a, mg (fn f) = some (.ref a) ∧ (∀ h, HP h → ∃ o fd, h.get? a = some o ∧ o.data = .func fd) ∧ CallOk prog w HP n a args pv
  bi : ∀ b, mg (biName b) = none ∧ mb (biName b) = some (biVal b)
  seqs : mg "range" = none ∧ mb "range" = some (.type "range") ∧ mg "zip" = none ∧ mb "zip" = some (.type "zip") ∧ mg "enumerate" = none ∧ mb "enumerate" = some (.type "enumerate")
  gl : ∀ x i, (x, i) ∈ gl → ∃ t, mg x = some (.int i t)
  hm : ∀ name f, hTable.lookup name = some f → ∀ (A : Around) (O : List Addr) (s : Shared) (x dx l : Addr) (xs : List (Str × Str)) (ts : List Addr) (pl : Sem Bool) (Q : Value × List Value → Shared → Prop) (E : Value → Shared → Prop),
    HP s.heap → HdrIs O s.heap x xs dx l ts → Q (.ref f, [.ref x]) s → wpAny (model prog w) A (getMethod (.ref x) name pl) Q E s
  hfn : ∀ name f, hTable.lookup name = some f → ∀ h, HP h → ∃ o fd, h.get? f = some o ∧ o.data = .func fd
  hcall : ∀ (m : MI) (args : List PV) (pv : PV), Γ (hfid m) args = some pv → ∃ f, hTable.lookup (miName m) = some f ∧ CallOk prog w HP n f args pv
  hattr : ∀ (A : Around) (O : List Addr) (s : Shared) (x dx l : Addr) (xs : List (Str × Str)) (ts : List Addr) (Q E : Value → Shared → Prop), HP s.heap → HdrIs O s.heap x xs dx l ts → (∀ tk, Q (.ref l) { s with toks := tk }) → wpAny (model prog w) A (getAttr (.ref x) "_headers" true) Q E s
  hconv : ∀ (hs : List (Str × Str)) (x : Str) (pv : PV), Γ 25 [.hdr hs, .str x] = some pv → pv = .str x ∧ ∀ (A : Around) (s : Shared) (self : Value) (t : Tok) (b : Bool), AOk n A → HP s.heap → ∀ (Q E : Value → Shared → Prop), (∀ s', Kp s s' → Q (.str x t) s') →
    wpAny (model prog w) A (call (.ref 139) [self, .str x t] [(Str.ofString "name", .bool b)]) Q E s

/-- the frame as an expression sees it -/
structure EnvOk (sc : List (Str × NameKind)) (Δ : List (Str × Nat)) (O : List Addr) (env : Env) (ρ : PE) (h : Heap) : Prop where
  kind : env.scope.kind = .function
  globals : env.globals = mainGlobals
  builtins : env.builtins = builtinsNs
  gl : ∀ x, sc.lookup x = some .globalImplicit → env.kindOf x = some .globalImplicit
  clos : ∀ x, (sc.lookup x = some .cell ∨ sc.lookup x = some .free) → (env.kindOf x = some .cell ∨ env.kindOf x = some .free) ∧ ∃ c, env.cells.lookup x = some c
  envin : EnvIn env h
  vars : ∀ x i pv, Δ.lookup x = some i → ρ.get i = some pv → ∃ v, Look env h x v ∧ Rep O h v pv
  own : ∀ i xs, ρ.own = some (i, xs) → ∀ x, Δ.lookup x = some i → ∃ a vs, Look env h x (.ref a) ∧ a ∈ O ∧ PlainL h a vs.toArray ∧ IntsAre vs xs
  alive : Alive O h
  sub : ∀ a ∈ Mine.own env, a ∈ O
theorem EnvOk.kp {sc : List (Str × NameKind)} {Δ : List (Str × Nat)} {env : Env} {ρ : PE} {s' : Shared} (x : EnvOk sc Δ O env ρ s.heap) (k : Kp s s') : EnvOk sc Δ O env ρ s'.heap where
  kind := x.kind
  globals := x.globals
  builtins := x.builtins
  gl := x.gl
  clos := x.clos
  envin := x.envin.heap k.keep
  vars := fun y i pv h1 h2 => let ⟨v, l, r⟩ := x.vars y i pv h1 h2; ⟨v, l.heap k.keep, r.keeps k⟩
  own := fun i xs h1 y h2 => let ⟨a, vs, l, m, ⟨o, n, e, r⟩, q⟩ := x.own i xs h1 y h2; ⟨a, vs, l.heap k.keep, m, ⟨o, n, k.get e, r⟩, q⟩
  alive := x.alive.keeps k
  sub := x.sub

theorem glob_ok {HP : Heap → Prop} {mg mb : Str → Option Value} {env : Env} {x : Str} {pos : Pos} {v : Value} {Q E : Value → Shared → Prop} (W : Wd HP mg mb) (hp : HP s.heap) (hk : env.scope.kind = .function) (hg : env.globals = mainGlobals)
    (hx : env.kindOf x = some .globalImplicit) (hd : dbg x = false) (hv : mg x = some v) (h : Q v s) : wpAny (model prog w) A (eval (.Name x pos) env) Q E s :=
  Name_function_global hk hx (loadGlobal_global (hg ▸ W.g _ hp) hv h) (dbg_1 hd)
theorem bi_name_ok {HP : Heap → Prop} {mg mb : Str → Option Value} {env : Env} {x : Str} {pos : Pos} {v : Value} {Q E : Value → Shared → Prop} (W : Wd HP mg mb) (hp : HP s.heap) (hk : env.scope.kind = .function) (hg : env.globals = mainGlobals) (hb : env.builtins = builtinsNs)
    (hx : env.kindOf x = some .globalImplicit) (hd : dbg x = false) (hn : mg x = none) (hv : mb x = some v) (h : Q v s) : wpAny (model prog w) A (eval (.Name x pos) env) Q E s :=
  Name_function_global hk hx (loadGlobal_builtin (hg ▸ W.g _ hp) hn (hb ▸ W.b _ hp) hv h) (dbg_1 hd)
end
end Mine
end

-- Q5
section
open PySem PyProof.Rows PySem.Calls PySem.Spec PySem.W
set_option maxRecDepth 100000
set_option autoImplicit false
namespace Mine

theorem lookup_mem {α : Type} {l : List (Str × α)} {n : Str} {c : α} (h : l.lookup n = some c) : (n, c) ∈ l := mem_of_lookup h
theorem lookup_of_mem {α : Type} : ∀ {l : List (Str × α)} {n : Str} {c : α}, (l.map (·.1)).Nodup → (n, c) ∈ l → l.lookup n = some c
  | (k, v) :: r, n, c, hn, h => by
    obtain ⟨h1, h2⟩ := List.nodup_cons.mp hn
    rw [List.lookup_cons]
    rcases List.mem_cons.mp h with e | h'
    · cases e; simp
    · have hne : n ≠ k := by
        intro e
        exact h1 (e ▸ List.mem_map.mpr ⟨_, h', rfl⟩)
      have : (n == k) = false := by simpa using hne
      rw [this]
      exact lookup_of_mem h2 h'

/-- what a comprehension's scope closes over -/
noncomputable def closL (cells : List (Str × Addr)) : List (Str × NameKind) → List (Str × Addr) → List (Str × Addr)
  | [], acc => acc
  | (n, k) :: r, acc => if k == .free then closL cells r ((n, (cells.lookup n).getD 0) :: acc) else closL cells r acc

theorem closL_append (cells : List (Str × Addr)) : ∀ (names : List (Str × NameKind)) (acc : List (Str × Addr)), closL cells names acc = closL cells names [] ++ acc
  | [], _ => rfl
  | (n, k) :: r, acc => by
    unfold closL
    split
    · rw [closL_append cells r (_ :: acc), closL_append cells r [_]]; simp
    · exact closL_append cells r acc
theorem closL_mem {cells : List (Str × Addr)} : ∀ {names : List (Str × NameKind)} {n : Str} {c : Addr}, (n, c) ∈ closL cells names [] → (n, NameKind.free) ∈ names ∧ c = (cells.lookup n).getD 0
  | [], _, _, h => nomatch h
  | (m, k) :: r, n, c, h => by
    unfold closL at h
    split at h
    · rename_i hk
      rw [closL_append] at h
      rcases List.mem_append.mp h with h | h
      · exact ⟨List.mem_cons_of_mem _ (closL_mem h).1, (closL_mem h).2⟩
      · have e := List.mem_singleton.mp h
        cases e
        have : k = .free := by simpa using hk
        subst this
        exact ⟨List.mem_cons_self .., rfl⟩
    · exact ⟨List.mem_cons_of_mem _ (closL_mem h).1, (closL_mem h).2⟩
theorem closL_has {cells : List (Str × Addr)} : ∀ {names : List (Str × NameKind)} {n : Str}, (n, NameKind.free) ∈ names → (n, (cells.lookup n).getD 0) ∈ closL cells names []
  | (m, k) :: r, n, h => by
    unfold closL
    rcases List.mem_cons.mp h with e | h
    · cases e
      simp only [beq_self_eq_true, if_true]
      rw [closL_append]; simp
    · split
      · rw [closL_append]; exact List.mem_append_left _ (closL_has h)
      · exact closL_has h
theorem closL_names {cells : List (Str × Addr)} : ∀ {names : List (Str × NameKind)}, (names.map (·.1)).Nodup → ((closL cells names []).map (·.1)).Nodup
  | [], _ => by simp [closL]
  | (m, k) :: r, h => by
    obtain ⟨h1, h2⟩ := List.nodup_cons.mp h
    unfold closL
    split
    · rw [closL_append, List.map_append, List.nodup_append]
      refine ⟨closL_names h2, by simp, ?_⟩
      intro a ha b hb e
      simp at hb
      subst hb
      subst e
      obtain ⟨⟨n, c⟩, hm, rfl⟩ := List.mem_map.mp ha
      exact h1 (List.mem_map.mpr ⟨_, (closL_mem hm).1, rfl⟩)
    · exact closL_names h2
section
variable {M : Model} {A : Around} {E : Value → Shared → Prop} {s : Shared}
theorem closureFor_closL {scope : Scope} {env : Env} (h : ∀ n, (n, NameKind.free) ∈ scope.names → ∃ c, env.cells.lookup n = some c) : closureFor scope env = pure (closL env.cells scope.names []) := by
  unfold closureFor
  have key : ∀ (names : List (Str × NameKind)) (acc : List (Str × Addr)), (∀ n, (n, NameKind.free) ∈ names → ∃ c, env.cells.lookup n = some c) →
      (forIn names acc fun x cs => if x.2 == NameKind.free then (do let a ← cellOf env x.1; pure (.yield ((x.1, a) :: cs))) else pure (.yield cs) : Sem (List (Str × Addr))) = pure (closL env.cells names acc) := by
    intro names
    induction names with
    | nil => intro acc _; rfl
    | cons x r ih =>
      intro acc hf
      obtain ⟨n, k⟩ := x
      rw [List.forIn_cons]
      unfold closL
      have hr := fun n hn => hf n (List.mem_cons_of_mem _ hn)
      by_cases hk : (k == NameKind.free) = true
      · simp only [hk, if_true]
        have : k = .free := by simpa using hk
        subst this
        obtain ⟨c, hc⟩ := hf n (List.mem_cons_self ..)
        unfold cellOf
        rw [hc]
        exact ih _ hr
      · have hk' : (k == NameKind.free) = false := by simpa using hk
        simp only [hk', Bool.false_eq_true, if_false]
        exact ih _ hr
  have := key scope.names [] h
  simpa using this
end

theorem cellsFrom_append : ∀ (names : List (Str × NameKind)) (n : Nat) (acc : List (Str × Addr)), cellsFrom n names acc = cellsFrom n names [] ++ acc
  | [], _, _ => rfl
  | (m, k) :: r, n, acc => by
    unfold cellsFrom
    split
    · rw [cellsFrom_append r (n + 1) (_ :: acc), cellsFrom_append r (n + 1) [_]]; simp
    · exact cellsFrom_append r n acc
theorem cellsFrom_name : ∀ {names : List (Str × NameKind)} {n : Nat} {x : Str} {c : Addr}, (x, c) ∈ cellsFrom n names [] → (x, NameKind.cell) ∈ names
  | [], _, _, _, h => nomatch h
  | (m, k) :: r, n, x, c, h => by
    unfold cellsFrom at h
    split at h
    · rename_i hk
      rw [cellsFrom_append] at h
      rcases List.mem_append.mp h with h | h
      · exact List.mem_cons_of_mem _ (cellsFrom_name h)
      · have e := List.mem_singleton.mp h
        cases e
        have : k = .cell := by simpa using hk
        subst this
        exact List.mem_cons_self ..
    · exact List.mem_cons_of_mem _ (cellsFrom_name h)
theorem cellsFrom_has : ∀ {names : List (Str × NameKind)} {n : Nat} {x : Str}, (x, NameKind.cell) ∈ names → ∃ c, (x, c) ∈ cellsFrom n names []
  | (m, k) :: r, n, x, h => by
    unfold cellsFrom
    rcases List.mem_cons.mp h with e | h
    · cases e
      simp only [beq_self_eq_true, if_true]
      rw [cellsFrom_append]
      exact ⟨n, by simp⟩
    · split
      · rw [cellsFrom_append]
        obtain ⟨c, hc⟩ := cellsFrom_has (n := n + 1) h
        exact ⟨c, List.mem_append_left _ hc⟩
      · exact cellsFrom_has h
theorem cellsFrom_nodup : ∀ {names : List (Str × NameKind)} {n : Nat}, (names.map (·.1)).Nodup → ((cellsFrom n names []).map (·.1)).Nodup
  | [], _, _ => by simp [cellsFrom]
  | (m, k) :: r, n, h => by
    obtain ⟨h1, h2⟩ := List.nodup_cons.mp h
    unfold cellsFrom
    split
    · rw [cellsFrom_append, List.map_append, List.nodup_append]
      refine ⟨cellsFrom_nodup h2, by simp, ?_⟩
      intro a ha b hb e
      simp at hb
      subst hb
      subst e
      obtain ⟨⟨n, c⟩, hm, rfl⟩ := List.mem_map.mp ha
      exact h1 (List.mem_map.mpr ⟨_, cellsFrom_name hm, rfl⟩)
    · exact cellsFrom_nodup h2

section
variable {M : Model} {A : Around} {E : Value → Shared → Prop} {s : Shared}
theorem newEnv_comp {scope : Scope} {globals : Addr} {cl : List (Str × Addr)} {qual : Str} {outer : Env} {builtins : Addr} {Q : Env → Shared → Prop}
    (hQ : Q (newEnv scope s.heap.objs.size globals (cellsFrom (s.heap.objs.size + 1) scope.names cl) qual none .none (some outer) builtins) { s with heap := pushCells (s.heap.push { cls := .type "dict", data := .dict #[] }) scope.names }) :
    wpAny M A (newFunctionEnv scope globals cl [] qual none .none (some outer) builtins) Q E s := by
  simp only [newFunctionEnv, Option.isSome_some, if_true]
  refine wpAny_bind (wpAny_alloc ?_)
  refine wpAny_bind (wpAny_layCells _ (fun name kind cells => by cases hkc : kind == NameKind.cell <;> simp [hkc]) _ _ _ _ ?_)
  rw [show ({ s with heap := s.heap.push { cls := .type "dict", data := .dict #[] } } : Shared).heap.objs.size = s.heap.objs.size + 1 from Heap.size_push ..]
  exact wpAny_bind (wpAny_pure (wpAny_pure hQ))
end
section
variable {prog : Program} {w : World} {A : Around} {R : Result → Shared → Prop} {s : Shared}
theorem compLoop_go {elt target iter : Expr} {ifs : List Expr} {scope : Scope} {pos : Pos} {it acc : Value} {env : Env} (I : Nat → Shared → Prop)
    (turn : ∀ n s, I n s → wpAny (model prog w) A (pyNext it) (fun r s₁ => match r with
      | none => R (.ok .next) s₁
      | some v => wpAny (model prog w) A (letOwnedTupleGo target it v) (fun _ s₁' => wpAny (model prog w) A (assign target env v) (fun _ s₂ =>
          wpAny (model prog w) A (forIn ifs true fun c r => if r = true then do let ok ← isTrue c env (eval c env); pure (ForInStep.yield ok) else pure (ForInStep.yield r)) (fun ok s₃ =>
            if ok = true then wpAny (model prog w) A (eval elt env) (fun x s₄ =>
              wpAny (model prog w) A (call (.builtin "list.append") [acc, x]) (fun _ s₅ => ∃ m, m < n ∧ I m s₅) (notedBy (model prog w) A env fun e s' => R (.error e) s') s₄) (notedBy (model prog w) A env fun e s' => R (.error e) s') s₃
            else ∃ m, m < n ∧ I m s₃) (notedBy (model prog w) A env fun e s' => R (.error e) s') s₂) (notedBy (model prog w) A env fun e s' => R (.error e) s') s₁') (notedBy (model prog w) A env fun e s' => R (.error e) s') s₁) (notedBy (model prog w) A env fun e s' => R (.error e) s') s)
    (n : Nat) (h : I n s) : codeAny (model prog w) A (.compLoop (.ListComp elt [⟨target, iter, ifs, 0⟩] scope pos) 0 it acc env) R s := by
  refine codeAny_loop rfl I (fun n s hI => ?_) n h
  show wpAny _ A ((compTurn (.ListComp elt [⟨target, iter, ifs, 0⟩] scope pos) 0 it acc env).onRaise (fun x => do noteFrame x env; theTreesLotGoes x)) _ _ s
  refine wpAny_noted ?_
  rw [compTurn_list]
  refine wpAny_bind (wpAny_standAt (wpAny_bind (wpAny_mono (turn n s hI) (fun r s₁ h₁ => ?_) fun _ _ h' => h')))
  cases r with
  | none => exact wpAny_pure h₁
  | some v =>
    refine wpAny_bind (wpAny_mono h₁ (fun _ s₁' h₁' => ?_) fun _ _ h' => h')
    refine wpAny_bind (wpAny_mono h₁' (fun _ s₂ h₂ => wpAny_bind (wpAny_mono h₂ (fun ok s₃ h₃ => ?_) fun _ _ h' => h')) fun _ _ h' => h')
    cases ok with
    | false => exact wpAny_pure ⟨rfl, h₃⟩
    | true =>
      exact wpAny_bind (wpAny_bind (wpAny_mono h₃ (fun x s₄ h₄ => wpAny_bind (wpAny_mono h₄ (fun _ s₅ h₅ => wpAny_pure (wpAny_pure ⟨rfl, h₅⟩)) fun _ _ h' => h')) fun _ _ h' => h'))
end
end Mine
end

-- Q6
section
open PySem PyProof.Rows PySem.Calls PySem.Spec PySem.W
set_option maxRecDepth 100000
set_option autoImplicit false
namespace Mine

noncomputable def Bound : Tg → List Addr → Heap → Value → PV → Prop
  | .one .., O, h, v, d => Rep O h v d
  | .two .., O, h, v, d => ∀ a b, d = .tup [a, b] → ∃ T x y, v = .ref T ∧ h.IsTuple T #[x, y] ∧ Rep O h x a ∧ Rep O h y b

structure FeedAt (prog : Program) (w : World) (A : Around) (target : Expr) (O : List Addr) (s : Shared) (tg : Tg) (items : List PV) (s₂ : Shared) (I : Addr) (fp wr : List Addr) (P Md : Nat → Value → Heap → Prop) (St : Nat → Heap → Prop) : Prop where
  turns : KTurns prog w A target I fp wr items.length P Md St
  zero : St 0 s₂.heap
  kp : Kp s s₂
  wrNew : ∀ b ∈ wr, s.heap.get? b = none
  fpAt : Alive fp s₂.heap
  fpOld : ∀ b ∈ fp, s.heap.get? b = none ∨ b ∉ O
  item : ∀ i v h X, P i v h → (∀ b o, b ∉ wr → b ∉ O → s₂.heap.get? b = some o → h.get? b = some o) → (∀ b ∈ X, b ∈ wr ∨ s₂.heap.get? b = none ∨ b ∈ O) → ∃ d, items[i]? = some d ∧ Bound tg (X ++ O) h v d
  alive : ∀ i h, St i h → Alive wr h
  self : ∀ (s' : Shared) (Q E : Value → Shared → Prop), St 0 s'.heap → Q (.ref I) s' → wpAny (model prog w) A (pyIter (.ref I)) Q E s'
noncomputable def Feed (prog : Program) (w : World) (A : Around) (target : Expr) (O : List Addr) (s : Shared) (tg : Tg) (items : List PV) (it : Value) (s₂ : Shared) : Prop :=
  ∃ I fp wr P Md St, it = .ref I ∧ FeedAt prog w A target O s tg items s₂ I fp wr P Md St

section
variable {prog : Program} {w : World} {A : Around} {target : Expr} {O : List Addr} {s s₁ s₂ : Shared} {tg : Tg} {items : List PV} {it : Value}
theorem Feed.of (f : Feed prog w A target O s₁ tg items it s₂) (k : Kp s s₁) : Feed prog w A target O s tg items it s₂ := by
  obtain ⟨I, fp, wr, P, Md, St, e, x⟩ := f
  refine ⟨I, fp, wr, P, Md, St, e, x.turns, x.zero, k.trans x.kp, fun b hb => k.none (x.wrNew b hb), x.fpAt, fun b hb => ?_, x.item, x.alive, x.self⟩
  rcases x.fpOld b hb with h | h
  · exact .inl (k.none h)
  · exact .inr h

/-- items are kept by an iterator's turns -/
theorem Rep.fed {O wr X : List Addr} {h₀ h₂ h : Heap} {v : Value} {d : PV} (r : Rep O h₀ v d) (k : ∀ b o, h₀.get? b = some o → h₂.get? b = some o) (hw : ∀ b ∈ wr, h₀.get? b = .none)
    (hk : ∀ b o, b ∉ wr → b ∉ O → h₂.get? b = some o → h.get? b = some o) (hX : ∀ b ∈ X, b ∈ wr ∨ h₂.get? b = .none ∨ b ∈ O) : Rep (X ++ O) h v d := by
  have hn : ∀ a o, h₀.get? a = some o → a ∉ wr := fun a o q hm => by
    have := hw a hm
    rw [q] at this; cases this
  refine r.mono (fun a ha ⟨o, q⟩ => ?_) fun a o ha q => hk a o (hn a o q) ha (k a o q)
  simp only [List.mem_append, not_or]
  refine ⟨fun hx => ?_, ha⟩
  rcases hX a hx with h | h | h
  · exact hn a o q h
  · rw [k a o q] at h; cases h
  · exact ha h
theorem Bound.ofRep {tg : Tg} {O : List Addr} {h : Heap} {v : Value} {d : PV} (r : Rep O h v d) : Bound tg O h v d := by
  cases tg with
  | one => exact r
  | two =>
    intro a b e
    subst e
    exact r.tupE (P := fun v => ∃ T x y, v = .ref T ∧ h.IsTuple T #[x, y] ∧ Rep O h x a ∧ Rep O h y b) rfl fun T vs _ ht rs => rs.twoE (P := fun vs => h.IsTuple T vs.toArray → _) (fun x y r1 r2 ht => ⟨T, x, y, rfl, ht, r1, r2⟩) ht

variable {Q E : Value → Shared → Prop}
theorem Walks.lt {I : Addr} {fp wr : List Addr} {n : Nat} {P : Nat → Value → Prop} {St : Nat → Heap → Prop} (W : Walks prog w A I fp wr n P St) : Walks prog w A I fp wr n (fun i v => i < n ∧ P i v) St where
  sub := W.sub
  frame := W.frame
  item := fun i s Q E hi st hQ => W.item i s Q E hi st fun v h' tk hP st' hk => hQ v h' tk ⟨hi, hP⟩ st' hk
  done := W.done
  self := W.self
theorem Feed.walks {I : Addr} {fp wr : List Addr} {n : Nat} {P : Nat → Value → Prop} {St : Nat → Heap → Prop} (W : Walks prog w A I fp wr n P St) (hn : n = items.length) (hal : ∀ i h, St i h → Alive wr h)
    (hgo : ∀ i v (s : Shared) (Q : Unit → Shared → Prop) (E : Value → Shared → Prop), P i v → St (i + 1) s.heap → Q () s → wpAny (model prog w) A (letOwnedTupleGo target (.ref I) v) Q E s)
    (zero : St 0 s₂.heap) (kp : Kp s s₂) (wrNew : ∀ b ∈ wr, s.heap.get? b = .none) (fpAt : Alive fp s₂.heap) (fpOld : ∀ b ∈ fp, s.heap.get? b = .none ∨ b ∉ O)
    (item : ∀ i v, i < n → P i v → ∃ d, items[i]? = some d ∧ ∀ h X, (∀ b o, b ∉ wr → b ∉ O → s₂.heap.get? b = some o → h.get? b = some o) → (∀ b ∈ X, b ∈ wr ∨ s₂.heap.get? b = .none ∨ b ∈ O) → Bound tg (X ++ O) h v d) : Feed prog w A target O s tg items (.ref I) s₂ := by
  subst hn
  have W' := Walks.lt W
  refine ⟨I, fp, wr, fun i v _ => i < items.length ∧ P i v, fun i v h => (i < items.length ∧ P i v) ∧ St (i + 1) h, St, rfl, ⟨W'.sub, W'.frame, fun i s Q E hi st hQ => W'.item i s Q E hi st fun v h' tk hP st' hk => hQ v h' tk ⟨hP, st'⟩ hk, fun i v s Q E hm hQ => hgo i v s Q E hm.1.2 hm.2 (hQ s.heap hm.1 hm.2 fun _ _ _ e => e), W'.done⟩, zero, kp, wrNew, fpAt, fpOld, fun i v h X hp hk hX => ?_, hal, W.self 0⟩
  obtain ⟨d, hd, hb⟩ := item i v hp.1 hp.2
  exact ⟨d, hd, hb h X hk hX⟩
theorem Feed.walksU {elts : List Expr} {k : Nat} {pos : Pos} {I : Addr} {fp wr : List Addr} {n : Nat} {Pt : Nat → Array Value → Prop} {St : Nat → Heap → Prop} {Mid : Nat → Addr → Heap → Prop} (W : WalksU prog w A I fp wr n Pt St Mid) (hn : n = items.length) (hal : ∀ i h, St i h → Alive wr h)
    (zero : St 0 s₂.heap) (kp : Kp s s₂) (wrNew : ∀ b ∈ wr, s.heap.get? b = .none) (fpAt : Alive fp s₂.heap) (fpOld : ∀ b ∈ fp, s.heap.get? b = .none ∨ b ∉ O)
    (item : ∀ i vals, i < n → Pt i vals → ∃ d, items[i]? = some d ∧ ∀ h T X, h.IsTuple T vals → (∀ b o, b ∉ wr → b ∉ O → s₂.heap.get? b = some o → h.get? b = some o) → (∀ b ∈ X, b ∈ wr ∨ s₂.heap.get? b = .none ∨ b ∈ O) → Bound tg (X ++ O) h (.ref T) d) : Feed prog w A (.Tuple elts k pos) O s tg items (.ref I) s₂ := by
  subst hn
  refine ⟨I, fp, wr, _, _, St, rfl, KTurns.ofWalksU (elts := elts) (k := k) (pos := pos) W.bound, zero, kp, wrNew, fpAt, fpOld, fun i v h X hp hk hX => ?_, hal, W.self 0⟩
  obtain ⟨T, vals, rfl, hp, hT⟩ := hp
  obtain ⟨d, hd, hb⟩ := item i vals hp.1 hp.2
  exact ⟨d, hd, hb h T X hT hk hX⟩
theorem allN {α : Type} {P : α → Prop} : ∀ b ∈ ([] : List α), P b := fun _ h => nomatch h
theorem allC {α : Type} {P : α → Prop} {a : α} {l : List α} (h : P a) (t : ∀ b ∈ l, P b) : ∀ b ∈ a :: l, P b := List.forall_mem_cons.mpr ⟨h, t⟩
theorem one_new {h : Heap} : ∀ b ∈ [h.objs.size], h.get? b = .none := allC (get_size _) allN
theorem one_at {h : Heap} {o : Obj} (ho : o.isFreed = false) : Alive [h.objs.size] (h.push o) := allC ⟨_, Heap.get?_push_size _ ho⟩ allN
theorem alive_one {h : Heap} {a : Addr} {o : Obj} (e : h.get? a = some o) : Alive [a] h := allC ⟨o, e⟩ allN
theorem feed_list {l : Addr} {vs : List Value} {ds : List PV} (hh : A.handled = none) (hl : s.heap.IsList l vs.toArray) (hO : l ∉ O) (r : RepL O s.heap vs ds) (h : ∀ it s₂, Feed prog w A target O s tg ds it s₂ → Q it s₂) :
    wpAny (model prog w) A (pyIter (.ref l)) Q E s := by
  obtain ⟨lo, hlo, hlc, n, hld⟩ := id hl
  have hne : l ≠ s.heap.objs.size := Nat.ne_of_lt (Heap.lt_size hlo)
  refine wpAny_pyIter_list hl (h _ _ ?_)
  refine Feed.walks (Walks.list (prog := prog) (w := w) hh s.heap.objs.size l hne vs.toArray) (r.length) (fun i h st => let ⟨_, e, _⟩ := st.1; alive_one e) (fun i v s Q E _ st q => letGo_listiter st.1 q)
    ⟨⟨_, Heap.get?_push_size _ rfl, rfl, rfl⟩, hl.at fun o e => Heap.get?_push_of_some _ e⟩ (Kp.push _ _) one_new (allC ⟨_, Heap.get?_push_size _ rfl⟩ (allC ⟨_, Heap.get?_push_of_some _ hlo⟩ allN)) (allC (.inl (get_size _)) (allC (.inr hO) allN)) fun i v hi hp =>
      let ⟨d, hd, rd⟩ := r.get' (k := i) (v := v) (List.getElem?_toArray ▸ hp)
      ⟨d, hd, fun h' X hk hX => .ofRep (rd.fed (fun b o e => Heap.get?_push_of_some _ e) one_new hk hX)⟩
theorem feed_tuple {l : Addr} {vs : List Value} {ds : List PV} (hh : A.handled = none) (hl : s.heap.IsTuple l vs.toArray) (hO : l ∉ O) (r : RepL O s.heap vs ds) (h : ∀ it s₂, Feed prog w A target O s tg ds it s₂ → Q it s₂) :
    wpAny (model prog w) A (pyIter (.ref l)) Q E s := by
  obtain ⟨lo, hlo, hlc, n, hld⟩ := id hl
  have hne : l ≠ s.heap.objs.size := Nat.ne_of_lt (Heap.lt_size hlo)
  refine wpAny_pyIter_tuple hl (h _ _ ?_)
  refine Feed.walks (Walks.tuple (prog := prog) (w := w) hh s.heap.objs.size l hne vs.toArray) (r.length) (fun i h st => let ⟨_, e, _⟩ := st.1; alive_one e) (fun i v s Q E _ st q => letGo_tupleiter st.1 q)
    ⟨⟨_, Heap.get?_push_size _ rfl, rfl, rfl⟩, hl.at fun o e => Heap.get?_push_of_some _ e⟩ (Kp.push _ _) one_new (allC ⟨_, Heap.get?_push_size _ rfl⟩ (allC ⟨_, Heap.get?_push_of_some _ hlo⟩ allN)) (allC (.inl (get_size _)) (allC (.inr hO) allN)) fun i v hi hp =>
      let ⟨d, hd, rd⟩ := r.get' (k := i) (v := v) (List.getElem?_toArray ▸ hp)
      ⟨d, hd, fun h' X hk hX => .ofRep (rd.fed (fun b o e => Heap.get?_push_of_some _ e) one_new hk hX)⟩
theorem go_plain {v : Value} {I : Addr} {Q : Unit → Shared → Prop} {E : Value → Shared → Prop} (hv : ∀ a, v ≠ .ref a) (h : Q () s) : wpAny (model prog w) A (letOwnedTupleGo target (.ref I) v) Q E s := by
  unfold letOwnedTupleGo
  cases target <;> first
    | exact wpAny_pure h
    | (cases v <;> first
        | exact wpAny_pure h
        | exact absurd rfl (hv _))
theorem feed_str {x : Str} {t : Tok} (hh : A.handled = none) (h : ∀ it s₂, Feed prog w A target O s tg (x.cps.toList.map fun c => .str ⟨#[c]⟩) it s₂ → Q it s₂) :
    wpAny (model prog w) A (pyIter (.str x t)) Q E s := by
  cases ha : x.cps.all (· < 128)
  · refine wpAny_pyIter_wide ha (h _ _ ?_)
    refine Feed.walks (Walks.strWide hh _ x t) (by simp) (fun i h st => let ⟨_, e, _⟩ := st; alive_one e) (fun i v s Q E hp _ q => by obtain ⟨_, _, _, rfl⟩ := hp; exact go_plain (by simp) q) ⟨_, Heap.get?_push_size _ rfl, rfl, rfl⟩ (Kp.push _ _) one_new (one_at rfl) (fun b hb => .inl (one_new b hb)) (fun i v hi hp => ?_)
    obtain ⟨c, u, hc, rfl⟩ := hp
    exact ⟨.str ⟨#[c]⟩, by simp [hc], fun _ _ _ _ => .ofRep (.str _ _)⟩
  · refine wpAny_pyIter_ascii ha (h _ _ ?_)
    refine Feed.walks (Walks.strAscii hh _ x t) (by simp) (fun i h st => let ⟨_, e, _⟩ := st; alive_one e) (fun i v s Q E hp _ q => by obtain ⟨_, _, _, rfl⟩ := hp; exact go_plain (by simp) q) ⟨_, Heap.get?_push_size _ rfl, rfl, rfl⟩ (Kp.push _ _) one_new (one_at rfl) (fun b hb => .inl (one_new b hb)) (fun i v hi hp => ?_)
    obtain ⟨c, u, hc, rfl⟩ := hp
    exact ⟨.str ⟨#[c]⟩, by simp [hc], fun _ _ _ _ => .ofRep (.str _ _)⟩
theorem feed_range_it {a b c : Int} {t u v : Tok} {r : Addr} (hh : A.handled = none) (hr : IsRange s.heap r a b c t u v) (hs : Builtin.Range.small a b c = true) (hp : 0 ≤ Builtin.Range.rangeSize a b c)
    (h : ∀ it s₂, Feed prog w A target O s tg ((rangeP a b c).map .int) it s₂ → Q it s₂) : wpAny (model prog w) A (pyIter (.ref r)) Q E s := by
  refine wpAny_pyIter_range hr hs (h _ _ ?_)
  refine Feed.walks (Walks.range (prog := prog) (w := w) hh s.heap.objs.size a c (Builtin.Range.rangeSize a b c).toNat) (by simp [rangeP]) (fun i h st => alive_one st) (fun i v s Q E hp _ q => by obtain ⟨_, rfl⟩ := hp; exact go_plain (by simp) q) ?_ (Kp.push _ _) one_new (one_at rfl) (fun b hb => .inl (one_new b hb)) (fun i v hi hp => ?_)
  · have e1 : a + ((0 : Nat) : Int) * c = a := by rw [Int.natCast_zero, Int.zero_mul, Int.add_zero]
    have e2 : ((Builtin.Range.rangeSize a b c).toNat : Int) - ((0 : Nat) : Int) = Builtin.Range.rangeSize a b c := by rw [Int.natCast_zero, Int.sub_zero, Int.toNat_of_nonneg hp]
    show IsRangeIter _ _ _ _ _
    rw [e1, e2]
    exact Heap.get?_push_size _ rfl
  · obtain ⟨t, rfl⟩ := hp
    exact ⟨.int (a + i * c), by simp [rangeP, hi], fun _ _ _ _ => .ofRep (.int _ _)⟩

theorem range_facts {a b c : Int} (h : 0 ≤ a ∧ a < 4096) (hb : -4096 ≤ b ∧ b < 4096) (hc : 0 < c ∧ c < 4096) : Builtin.Range.small a b c = true ∧ 0 ≤ Builtin.Range.rangeSize a b c ∧ Builtin.Range.rangeSize a b c ≤ 4096 := by
  have key : 0 ≤ Builtin.Range.rangeSize a b c ∧ Builtin.Range.rangeSize a b c ≤ 4096 := by
    unfold Builtin.Range.rangeSize
    rw [if_pos hc.1]
    split
    · have h1 := Int.ediv_nonneg (a := b - a - 1) (b := c) (by omega) (by omega)
      have h2 := Int.ediv_le_self (a := b - a - 1) c (by omega)
      generalize (b - a - 1) / c = q at *
      omega
    · decide
  refine ⟨?_, key⟩
  unfold Builtin.Range.small
  generalize Builtin.Range.rangeSize a b c = z at *
  simp only [Builtin.Range.rangeFitsLong, Bool.and_eq_true, Bool.or_eq_true, decide_eq_true_eq, beq_iff_eq, show c > 0 from hc.1, if_true]
  omega
theorem range_call {us : List Value} {ds : List PV} {l : List Int} (r : RepL O s.heap us ds) (hl : rangeOf ds = some l)
    (h : ∀ a b c t u v k s', Kp s s' → IsRange s'.heap k a b c t u v → Builtin.Range.small a b c = true → 0 ≤ Builtin.Range.rangeSize a b c → Builtin.Range.rangeSize a b c ≤ 4096 → l = rangeP a b c → Q (.ref k) s') : wpAny (model prog w) A (call (.type "range") us) Q E s := by
  cases ds with
  | nil => exact none_some hl
  | cons d ds =>
    cases ds with
    | nil => exact bindE hl fun b hb hl => ifE hl fun hc hl => r.oneE fun v rv => rv.intE (P := fun v => wpAny (model prog w) A (call (.type "range") [v]) Q E s) hb fun t =>
        have f := range_facts (a := 0) (b := b) (c := 1) (by decide) hc (by decide)
        call_range_1 (h _ _ _ _ _ _ _ _ (Kp.pushT _ _ _) (IsRange.new ..) f.1 f.2.1 f.2.2 (Option.some.inj hl).symm)
    | cons e ds =>
      have hl : arg2 (e :: ds) (range3 d) = some l := hl
      refine arg2E (P := fun xs => RepL O s.heap us (d :: xs) → wpAny (model prog w) A (call (.type "range") us) Q E s) hl (fun x y hl r => ?_) r
      refine r.consE fun va us ra r => r.twoE fun vb vc rb rc => ra.ints2 (P := fun va vb => wpAny (model prog w) A (call (.type "range") [va, vb, vc]) Q E s) rb hl fun a b t u hl => bindE hl fun c hc hl => ifE hl fun q hl => rc.intE (P := fun vc => wpAny (model prog w) A (call (.type "range") [.int a t, .int b u, vc]) Q E s) hc fun v => ?_
      have f := range_facts (a := a) (b := b) (c := c) ⟨q.1, q.2.1⟩ ⟨Int.le_trans (by decide) q.2.2.1, q.2.2.2.1⟩ q.2.2.2.2
      exact call_range_3 (Int.ne_of_gt q.2.2.2.2.1) (h _ _ _ _ _ _ _ _ (Kp.pushT _ _ _) (IsRange.new ..) f.1 f.2.1 f.2.2 (Option.some.inj hl).symm) (.inl (PyProof.noPylong_small (by omega)))
/-- range(..), as a source -/
theorem feed_range {vs : List Value} {ds : List PV} {l : List Int} (hh : A.handled = none) (r : RepL O s.heap vs ds) (hl : rangeOf ds = some l)
    (h : ∀ it s₂, Feed prog w A target O s tg (l.map .int) it s₂ → Q it s₂) : wpAny (model prog w) A (call (.type "range") vs) (fun xv s₁ => wpAny (model prog w) A (pyIter xv) Q E s₁) E s :=
  range_call r hl fun a b c t u v k s' kp hr hs h0 _ e => feed_range_it hh hr hs h0 fun it s₂ f => h it s₂ (e ▸ f.of kp)

theorem zipP_length : ∀ (x y : List PV), (zipP x y).length = min x.length y.length
  | [], _ => (Nat.zero_min _).symm
  | _ :: _, [] => (Nat.min_zero _).symm
  | a :: x, b :: y => (congrArg (· + 1) (zipP_length x y)).trans (Nat.add_min_add_right ..).symm
theorem zipP_get : ∀ (x y : List PV) (i : Nat) {a b : PV}, x[i]? = some a → y[i]? = some b → (zipP x y)[i]? = some (.tup [a, b])
  | [], _, _, _, _, h, _ => none_some h
  | _ :: _, [], _, _, _, _, h => none_some h
  | a :: x, b :: y, 0, _, _, h, h' => by cases h; cases h'; rfl
  | a :: x, b :: y, i + 1, _, _, h, h' => zipP_get x y i h h'
theorem enumP_length : ∀ (x : List PV) (n : Nat), (enumP n x).length = x.length
  | [], _ => rfl
  | a :: x, n => congrArg (· + 1) (enumP_length x (n + 1))
theorem enumP_get : ∀ (x : List PV) (n i : Nat) {a : PV}, x[i]? = some a → (enumP n x)[i]? = some (.tup [.int ((n + i : Nat) : Int), a])
  | [], _, _, _, h => none_some h
  | a :: x, n, 0, _, h => by cases h; rfl
  | a :: x, n, i + 1, _, h => (Nat.add_right_comm n 1 i ▸ enumP_get x (n + 1) i h :)
theorem feed_enum {a b : Str} {i₀ j₀ : Nat} {elts : List Expr} {k : Nat} {pos : Pos} {l : Addr} {vs : List Value} {ds : List PV} (hh : A.handled = none) (hl : s.heap.IsList l vs.toArray) (hO : l ∉ O) (r : RepL O s.heap vs ds)
    (h : ∀ it s₂, Feed prog w A (.Tuple elts k pos) O s (.two a i₀ b j₀) (enumP 0 ds) it s₂ → Q it s₂) :
    wpAny (model prog w) A (call (.type "enumerate") [.ref l]) (fun xv s₁ => wpAny (model prog w) A (pyIter xv) Q E s₁) E s := by
  obtain ⟨lo, hlo, hlc, n, hld⟩ := id hl
  have hlt : l < s.heap.objs.size := Heap.lt_size hlo
  have new : ∀ b ∈ [s.heap.objs.size + 1, s.heap.objs.size], s.heap.get? b = .none := allC (new_ge (Nat.le_add_right _ _)) (allC (get_size _) allN)
  refine call_enumerate_list hl fun h' hE hI hsz hk => ?_
  refine wpAny_pyIter_enum hE (h _ _ ?_)
  exact Feed.walksU (WalksT.enumerate hh (s.heap.objs.size + 1) s.heap.objs.size l (Nat.succ_ne_self _) (ktu_ne 1 hlt) (Nat.ne_of_lt hlt) vs.toArray).toU (r.length.trans (enumP_length ds 0).symm)
    (fun i h st => let ⟨⟨_, he⟩, ⟨o, hi, _⟩, _⟩ := st; allC ⟨_, he⟩ (allC ⟨o, hi⟩ allN))
    ⟨⟨_, hE⟩, hI, hl.at fun o e => hk l o e⟩ (Kp.of' hk) new (let ⟨o, ho, _⟩ := hI; allC ⟨_, hE⟩ (allC ⟨o, ho⟩ (allC ⟨_, hk _ _ hlo⟩ allN))) (allC (.inl (new_ge (Nat.le_add_right _ _))) (allC (.inl (get_size _)) (allC (.inr hO) allN)))
    fun i vals hi hp => by
      obtain ⟨t, x, hx, rfl⟩ := hp
      obtain ⟨d, hd, rd⟩ := r.get' (k := i) (v := x) (List.getElem?_toArray ▸ hx)
      exact ⟨_, enumP_get ds 0 i hd, fun h'' T X hT hk' hX a b hab => by
        cases hab
        exact ⟨T, _, _, rfl, hT, (Nat.zero_add i).symm ▸ .int _ _, rd.fed hk new hk' hX⟩⟩
theorem feed_zip {elts : List Expr} {k : Nat} {pos : Pos} {l1 l2 : Addr} {vs1 vs2 : List Value} {ds1 ds2 : List PV} {x y : Str} {i j : Nat} (hh : A.handled = none) (hl1 : s.heap.IsList l1 vs1.toArray) (hl2 : s.heap.IsList l2 vs2.toArray)
    (hO1 : l1 ∉ O) (hO2 : l2 ∉ O) (r1 : RepL O s.heap vs1 ds1) (r2 : RepL O s.heap vs2 ds2)
    (h : ∀ it s₂, Feed prog w A (.Tuple elts k pos) O s (.two x i y j) (zipP ds1 ds2) it s₂ → Q it s₂) :
    wpAny (model prog w) A (call (.type "zip") [.ref l1, .ref l2]) (fun xv s₁ => wpAny (model prog w) A (pyIter xv) Q E s₁) E s := by
  obtain ⟨lo1, hlo1, hlc1, n1, hld1⟩ := id hl1
  obtain ⟨lo2, hlo2, hlc2, n2, hld2⟩ := id hl2
  have D : ZipApart (s.heap.objs.size + 4) (s.heap.objs.size + 2) (s.heap.objs.size + 3) s.heap.objs.size (s.heap.objs.size + 1) l1 l2 := ktu_apart _ _ _ (Heap.lt_size hlo1) (Heap.lt_size hlo2)
  have ge : ∀ j, s.heap.get? (s.heap.objs.size + j) = .none := fun j => new_ge (Nat.le_add_right _ _)
  have new : ∀ b ∈ [s.heap.objs.size + 4, s.heap.objs.size + 3, s.heap.objs.size, s.heap.objs.size + 1], s.heap.get? b = .none := allC (ge 4) (allC (ge 3) (allC (ge 0) (allC (ge 1) allN)))
  refine call_zip_2 hl1 hl2 fun h' hz hTI hTO hi1 hi2 hsz hk => ?_
  refine wpAny_pyIter_zip hz (h _ _ ?_)
  exact Feed.walksU (WalksT.zip2 hh _ _ _ _ _ _ _ D vs1.toArray vs2.toArray).toU (by rw [zipP_length, List.size_toArray, List.size_toArray, r1.length, r2.length])
    (fun i h st => let ⟨g1, _, ⟨_, _, g3⟩, ⟨o4, g4, _⟩, ⟨o5, g5, _⟩, _⟩ := st; allC ⟨_, g1⟩ (allC ⟨_, g3⟩ (allC ⟨_, g4⟩ (allC ⟨_, g5⟩ allN))))
    ⟨hz, hTI, ⟨_, _, hTO⟩, hi1, hi2, hl1.at fun o e => hk l1 o e, hl2.at fun o e => hk l2 o e⟩ (Kp.of' hk) new
    (let ⟨o1, g1, _⟩ := hi1; let ⟨o2, g2, _⟩ := hi2; allC ⟨_, hz⟩ (allC ⟨_, hTI⟩ (allC ⟨_, hTO⟩ (allC ⟨o1, g1⟩ (allC ⟨o2, g2⟩ (allC ⟨_, hk _ _ hlo1⟩ (allC ⟨_, hk _ _ hlo2⟩ allN)))))))
    (allC (.inl (ge 4)) (allC (.inl (ge 2)) (allC (.inl (ge 3)) (allC (.inl (ge 0)) (allC (.inl (ge 1)) (allC (.inr hO1) (allC (.inr hO2) allN)))))))
    fun i vals hi hp => by
      obtain ⟨x, y, hx, hy, rfl⟩ := hp
      obtain ⟨d1, hd1, rd1⟩ := r1.get' (k := i) (v := x) (List.getElem?_toArray ▸ hx)
      obtain ⟨d2, hd2, rd2⟩ := r2.get' (k := i) (v := y) (List.getElem?_toArray ▸ hy)
      exact ⟨_, zipP_get ds1 ds2 i hd1 hd2, fun h'' T X hT hk' hX a b hab => by
        cases hab
        exact ⟨T, _, _, rfl, hT, rd1.fed hk new hk' hX, rd2.fed hk new hk' hX⟩⟩
end
end Mine
end

-- Q7
section
open PySem PyProof.Rows PySem.Calls PySem.Spec PySem.W
set_option maxRecDepth 100000
set_option autoImplicit false
namespace Mine

noncomputable def Tg.tab (tg : Tg) : List (Str × Nat) := Tg.casesOn (motive := fun _ => List (Str × Nat)) tg (fun x i => [(x, i)]) fun x i y j => [(x, i), (y, j)]
noncomputable def Tg.names (tg : Tg) : List Str := tg.tab.map (·.1)
noncomputable def Tg.slots (tg : Tg) : List Nat := tg.tab.map (·.2)
/-- the target's tree -/
noncomputable def Tg.Is : Tg → Expr → Prop
  | .one x _, t => ∃ p, t = .Name x p
  | .two x _ y _, t => x ≠ y ∧ ∃ p q k r, t = .Tuple [.Name x p, .Name y q] k r
noncomputable def At (env : Env) (ns : List Str) (b : Addr) : Prop := b = env.locals ∨ ∃ x ∈ ns, env.cells.lookup x = some b
theorem At.own {env : Env} {ns : List Str} {b : Addr} (h : At env ns b) : b ∈ own env := by
  rcases h with rfl | ⟨x, _, h⟩
  · exact List.mem_cons_self ..
  · exact List.mem_cons_of_mem _ (List.mem_map.mpr ⟨_, mem_of_lookup h, rfl⟩)
noncomputable def TgSet (env : Env) (O : List Addr) (h : Heap) : Tg → PV → Prop
  | .one x _, d => ∃ v, Look env h x v ∧ Rep O h v d
  | .two x _ y _, d => ∀ a b, d = .tup [a, b] → (∃ v, Look env h x v ∧ Rep O h v a) ∧ ∃ v, Look env h y v ∧ Rep O h v b

/-- a target's names are set -/
structure StIs (env : Env) (O : List Addr) (h : Heap) (tg : Tg) (d : PV) (h' : Heap) : Prop where
  i : EnvIn env h'
  k : ∀ b o, ¬ At env tg.names b → h.get? b = some o → h'.get? b = some o
  s : TgSet env O h' tg d
  l : ∀ y u, y ∉ tg.names → Look env h y u → Look env h' y u
section
variable {prog : Program} {w : World} {A : Around} {O : List Addr} {s : Shared} {env : Env}
theorem Rep.store {h h' : Heap} {a : Addr} {v : Value} {d : PV} (ha : a ∈ O) (hs : Heap.SameBut a h h') (r : Rep O h v d) : Rep O h' v d :=
  r.mono (fun _ x _ => x) fun b _ hb q => (hs.2 b fun e => hb (e ▸ ha)).trans q
theorem bindName_store {x : Str} {v : Value} {Q : Unit → Shared → Prop} {E : Value → Shared → Prop} (h : wpAny (model prog w) A (storeName env x v) Q E s) : wpAny (model prog w) A (bindName env x v) Q E s := fun Γ p hΓ => by
  rw [Sem.wp_bindName]; exact h Γ p hΓ
@[elab_as_elim] theorem bindT_two' {x y : Str} {i j : Nat} {d : PV} {ρ ρ' : PE} {P : PV → PE → Prop} (h : bindT (.two x i y j) d ρ = some ρ') (k : ∀ a b, ρ.free i = true → ρ.free j = true → P (.tup [a, b]) ((ρ.set i a).set j b)) : P d ρ' :=
  bindE h fun xs hx h => t?E (P := fun d => P d ρ') hx (arg2E (P := fun xs => P (.tup xs) ρ') h fun a b h => ifE h fun hf h => someE h (k a b (and1 hf) (and2 hf)))
theorem bindT_one {x : Str} {i : Nat} {d : PV} {ρ ρ' : PE} (h : bindT (.one x i) d ρ = some ρ') : ρ' = ρ.set i d ∧ ρ.free i = true := ifE h fun hf h => ⟨(Option.some.inj h).symm, hf⟩
theorem bindT_two {x y : Str} {i j : Nat} {d : PV} {ρ ρ' : PE} (h : bindT (.two x i y j) d ρ = some ρ') : ∃ a b, d = .tup [a, b] ∧ ρ' = (ρ.set i a).set j b := bindT_two' h fun a b _ _ => ⟨a, b, rfl, rfl⟩
/-- where a name's store may be -/
theorem at_of {x : Str} {a : Addr} {ns : List Str} (hx : x ∈ ns) (ha : a = env.locals ∨ env.cells.lookup x = some a) : At env ns a := ha.elim .inl fun h => .inr ⟨x, hx, h⟩
/-- a name's store -/
theorem store_one {x : Str} {i : Nat} {v : Value} {d : PV} {Q : Unit → Shared → Prop} {E : Value → Shared → Prop} (hk : env.scope.kind = .function) (hs : Sto env x) (hO : ∀ b ∈ own env, b ∈ O) (i0 : EnvIn env s.heap) (r : Rep O s.heap v d)
    (hQ : ∀ h' tk, StIs env O s.heap (.one x i) d h' → Q () { s with heap := h', toks := tk }) : wpAny (model prog w) A (storeName env x v) Q E s :=
  store_look hk hs i0 fun h' tk a ha hsb i' hl ho =>
    have at1 : At env [x] a := at_of (.head _) ha
    hQ h' tk ⟨i', fun b o hb' e => (hsb.2 b fun e' => hb' (e' ▸ at1)).trans e, ⟨v, hl, Rep.store (hO _ at1.own) hsb r⟩, fun y u hy l => ho y u (fun e => hy (e ▸ .head _)) l⟩
theorem StIs.mv {O : List Addr} {h h' : Heap} {tg : Tg} {d : PV} (x : StIs env O h tg d h') (hO : ∀ b ∈ own env, b ∈ O) : Mv O O h h' := ⟨fun _ ha _ => ha, fun a o ha e => x.k a o (fun hm => ha (hO _ hm.own)) e⟩
/-- both names are set, one behind the other -/
theorem two_st {x y : Str} {i j : Nat} {a b : PV} {h h1 h2 h3 : Heap} (hxy : x ≠ y) (k1 : ∀ b o, h.get? b = some o → h1.get? b = some o) (hO : ∀ b ∈ own env, b ∈ O) (s2 : StIs env O h1 (.one x i) a h2) (s3 : StIs env O h2 (.one y j) b h3) : StIs env O h (.two x i y j) (.tup [a, b]) h3 :=
  ⟨s3.i, fun b o hb e => s3.k b o (fun q => hb (q.imp id fun ⟨z, hz, e⟩ => ⟨z, .tail _ hz, e⟩)) (s2.k b o (fun q => hb (q.imp id fun ⟨z, hz, e⟩ => ⟨z, (List.mem_singleton.mp hz) ▸ .head _, e⟩)) (k1 b o e)),
    fun a0 b0 e => by
      cases e
      exact ⟨let ⟨v, l, r⟩ := s2.s; ⟨v, s3.l x v (fun h => hxy (List.mem_singleton.mp h)) l, r.mono' (s3.mv hO)⟩, s3.s⟩,
    fun z u hz l => s3.l z u (fun h => hz (.tail _ h)) (s2.l z u (fun h => hz ((List.mem_singleton.mp h) ▸ .head _)) (l.heap k1))⟩
theorem tg_assign {tg : Tg} {target : Expr} {v : Value} {d : PV} {ρ ρ' : PE} {Q : Unit → Shared → Prop} {E : Value → Shared → Prop} (hT : tg.Is target) (hh : A.handled = none) (hk : env.scope.kind = .function) (hs : ∀ x ∈ tg.names, Sto env x) (hO : ∀ b ∈ own env, b ∈ O) (i : EnvIn env s.heap) (hb : Bound tg O s.heap v d) (hbind : bindT tg d ρ = some ρ')
    (hQ : ∀ h' tk, StIs env O s.heap tg d h' → Q () { s with heap := h', toks := tk }) :
    wpAny (model prog w) A (assign target env v) Q E s := by
  cases tg with
  | one x i0 =>
    obtain ⟨p, rfl⟩ := hT
    exact wpAny_assign_Name (store_one hk (hs x (.head _)) hO i hb hQ)
  | two x i0 y j0 =>
    obtain ⟨hxy, p, q, k, r, rfl⟩ := hT
    obtain ⟨a, b, rfl, rfl⟩ := bindT_two hbind
    obtain ⟨T, vx, vy, rfl, hTT, hra, hrb⟩ := hb a b rfl
    refine wpAny_assign_Tuple hh hTT rfl rfl fun h1 he => ?_
    have k1 : ∀ b o, s.heap.get? b = some o → h1.get? b = some o := fun b o e => he b o (Nat.ne_of_lt (Heap.lt_size e)) e
    refine wpAny_bind (wpAny_holding (wpAny_assign_Name (store_one (i := i0) hk (hs x (.head _)) hO (i.heap k1) (hra.heap k1) fun h2 tk s2 => ?_)))
    refine wpAny_bind (wpAny_holding (wpAny_assign_Name (store_one (i := j0) hk (hs y (.tail _ (.head _))) hO s2.i ((hrb.heap k1).mono' (s2.mv hO)) fun h3 tk' s3 => wpAny_pure ?_)))
    exact hQ h3 tk' (two_st hxy k1 hO s2 s3)
end
end Mine
end

-- Q8
section
open PySem PyProof.Rows PySem.Calls PySem.Spec PySem.W
set_option maxRecDepth 100000
set_option autoImplicit false
namespace Mine

noncomputable def cEnv (scope : Scope) (env : Env) (h : Heap) : Env :=
  { newEnv scope h.objs.size env.globals (cellsFrom (h.objs.size + 1) scope.names (closL env.cells scope.names [])) env.qual none .none (some env) builtinsNs with scope := relabel scope env }
noncomputable def cHeap (scope : Scope) (h : Heap) : Heap := pushCells (h.push { cls := .type "dict", data := .dict #[] }) scope.names
structure CompScope (sc : List (Str × NameKind)) (scope : Scope) : Prop where
  kind : scope.kind = .function
  nodup : (scope.names.map (·.1)).Nodup
  free : ∀ n, (n, NameKind.free) ∈ scope.names → sc.lookup n = some .cell ∨ sc.lookup n = some .free

@[elab_as_elim] theorem lookupE {α : Type} {z x : Str} {k c : α} {l : List (Str × α)} {P : α → Prop} (h : ((x, k) :: l).lookup z = some c) (k1 : z = x → P k) (k2 : z ≠ x → l.lookup z = some c → P c) : P c := by
  rw [List.lookup_cons] at h
  cases e : z == x with
  | true => rw [e] at h; exact Option.some.inj h ▸ k1 (beq_iff_eq.mp e)
  | false => rw [e] at h; exact k2 (fun q => by rw [q, beq_self_eq_true] at e; cases e) h
theorem relabel_lookup {scope : Scope} {env : Env} {h : Heap} {x : Str} : (cEnv scope env h).kindOf x = (scope.names.lookup x).map fun k => if (k == .free && env.scope.kind == .function && env.kindOf x == some .cell) then .cell else k := by
  show (scope.names.map fun (n, k) => if (k == .free && env.scope.kind == .function && env.kindOf n == some .cell) then (n, NameKind.cell) else (n, k)).lookup x = _
  generalize scope.names = l
  induction l with
  | nil => rfl
  | cons p r ih =>
    have e : (if (p.2 == NameKind.free && env.scope.kind == .function && env.kindOf p.1 == some .cell) = true then (p.1, NameKind.cell) else (p.1, p.2)) = (p.1, if (p.2 == NameKind.free && env.scope.kind == .function && env.kindOf p.1 == some .cell) = true then .cell else p.2) := by split <;> rfl
    show List.lookup x ((if (p.2 == NameKind.free && env.scope.kind == .function && env.kindOf p.1 == some .cell) = true then (p.1, NameKind.cell) else (p.1, p.2)) :: _) = (List.lookup x ((p.1, p.2) :: r)).map _
    rw [e, List.lookup_cons, List.lookup_cons, ih]
    cases hx : x == p.1 with
    | true => rw [beq_iff_eq.mp hx]; rfl
    | false => rfl
theorem relabel_free {scope : Scope} {env : Env} {h : Heap} {x : Str} (e : scope.names.lookup x = some .free) : (cEnv scope env h).kindOf x = some .cell ∨ (cEnv scope env h).kindOf x = some .free := by
  rw [relabel_lookup, e]
  show some (if (NameKind.free == .free && env.scope.kind == ScopeKind.function && env.kindOf x == some .cell) = true then NameKind.cell else .free) = _ ∨ some (if (NameKind.free == .free && env.scope.kind == ScopeKind.function && env.kindOf x == some .cell) = true then NameKind.cell else .free) = _
  split
  · exact .inl rfl
  · exact .inr rfl
/-- the cells of the comprehension's frame -/
theorem cells_is {scope : Scope} {env : Env} {h : Heap} : (cEnv scope env h).cells = cellsFrom (h.objs.size + 1) scope.names [] ++ closL env.cells scope.names [] := cellsFrom_append ..
theorem free_not_cell {names : List (Str × NameKind)} (hn : (names.map (·.1)).Nodup) {x : Str} {n : Nat} (hx : (x, NameKind.free) ∈ names) : (cellsFrom n names []).lookup x = none := by
  cases e : (cellsFrom n names []).lookup x with
  | none => rfl
  | some c => exact nomatch (lookup_of_mem hn (cellsFrom_name (mem_of_lookup e))).symm.trans (lookup_of_mem hn hx)
theorem cells_lookup {scope : Scope} {env : Env} {h : Heap} (hn : (scope.names.map (·.1)).Nodup) {x : Str} {c : Addr} (hx : (x, NameKind.free) ∈ scope.names) (hc : env.cells.lookup x = some c) : (cEnv scope env h).cells.lookup x = some c := by
  rw [cells_is, List.lookup_append, free_not_cell hn hx]
  have := closL_has (cells := env.cells) hx
  rw [hc] at this
  exact lookup_of_mem (closL_names hn) this
theorem cells_new (scope : Scope) (h : Heap) : CellsOk (cHeap scope h) (h.objs.size + 1) (cellsFrom (h.objs.size + 1) scope.names []) := by
  have ok := cellsFrom_ok scope.names (h.push { cls := .type "dict", data := .dict #[] }) (h.objs.size + 1) [] ⟨fun _ _ hm => (nomatch hm), List.Pairwise.nil⟩ (by rw [Heap.size_push]; exact Nat.le_refl _)
  rw [Heap.size_push] at ok
  exact ok
theorem cEnv_in {scope : Scope} {env : Env} {h : Heap} (i : EnvIn env h) (hn : (scope.names.map (·.1)).Nodup) (hf : ∀ n, (n, NameKind.free) ∈ scope.names → ∃ c, env.cells.lookup n = some c) :
    EnvIn (cEnv scope env h) (cHeap scope h) := by
  have ok := cells_new scope h
  have keep : ∀ b o, h.get? b = some o → (cHeap scope h).get? b = some o := fun b o e => pushCells_keeps _ _ b o (Heap.get?_push_of_some _ e)
  have hcl : ∀ n c, (n, c) ∈ closL env.cells scope.names [] → (n, c) ∈ env.cells := fun n c hm => by
    obtain ⟨h1, h2⟩ := closL_mem hm
    obtain ⟨c', hc'⟩ := hf n h1
    rw [hc'] at h2
    exact h2 ▸ mem_of_lookup hc'
  refine ⟨⟨_, (Heap.Ns.new h (.type "dict")).keeps (pushCells_keeps _ _)⟩, fun n c hm => ?_, ?_⟩
  · rw [cells_is] at hm
    rcases List.mem_append.mp hm with hm | hm
    · exact ⟨_, (ok.empty n c hm).1⟩
    · obtain ⟨v, ic⟩ := i.cell n c (hcl n c hm)
      exact ⟨v, ic.keeps keep⟩
  · rw [cells_is, List.pairwise_append]
    refine ⟨ok.apart, (List.pairwise_map.mp (closL_names (cells := env.cells) hn)).imp_of_mem fun {a b} ha hb hab e => hab (name_of_addr i.apart (hcl a.1 a.2 ha) (e ▸ hcl b.1 b.2 hb)), fun a ha b hb e => ?_⟩
    obtain ⟨v, ic⟩ := i.cell b.1 b.2 (hcl b.1 b.2 hb)
    exact Nat.lt_irrefl _ (Nat.lt_trans (Nat.lt_of_succ_le (e ▸ (ok.empty a.1 a.2 ha).2)) ic.lt)
/-- a name of the comprehension's own lies at a new address -/
theorem cEnv_new {scope : Scope} {env : Env} {h : Heap} (hn : (scope.names.map (·.1)).Nodup) {ns : List Str} (hs : ∀ x ∈ ns, scope.names.lookup x = some .local ∨ scope.names.lookup x = some .cell) {b : Addr} (hb : At (cEnv scope env h) ns b) : h.objs.size ≤ b := by
  rcases hb with rfl | ⟨x, hx, hb⟩
  · exact Nat.le_refl _
  · have hm := mem_of_lookup hb
    rw [cells_is] at hm
    rcases List.mem_append.mp hm with hm | hm
    · exact Nat.le_of_succ_le ((cells_new scope h).empty x b hm).2
    · have h1 := lookup_of_mem hn (closL_mem hm).1
      exact (hs x hx).elim (fun h2 => nomatch h1.symm.trans h2) fun h2 => nomatch h1.symm.trans h2
theorem cEnv_sto {scope : Scope} {env : Env} {h : Heap} (hn : (scope.names.map (·.1)).Nodup) {x : Str} (hs : scope.names.lookup x = some .local ∨ scope.names.lookup x = some .cell) : Sto (cEnv scope env h) x := by
  rcases hs with hs | hs
  · exact .inl (by rw [relabel_lookup, hs]; rfl)
  · obtain ⟨c, hc⟩ := cellsFrom_has (n := h.objs.size + 1) (mem_of_lookup hs)
    exact .inr ⟨by rw [relabel_lookup, hs]; rfl, c, by rw [cells_is, List.lookup_append, lookup_of_mem (cellsFrom_nodup hn) hc]; rfl⟩

noncomputable def freeOf (names : List (Str × NameKind)) (Δ : List (Str × Nat)) : List (Str × Nat) := Δ.filter fun p => names.lookup p.1 == some .free
theorem lookup_freeOf {names : List (Str × NameKind)} {z : Str} {i : Nat} : ∀ {Δ : List (Str × Nat)}, (freeOf names Δ).lookup z = some i → Δ.lookup z = some i ∧ names.lookup z = some .free
  | [], h => none_some h
  | (n, k) :: r, h => by
    unfold freeOf at h
    rw [List.filter_cons] at h
    rw [List.lookup_cons]
    split at h
    · rename_i hf
      refine lookupE (P := fun i => (match z == n with | true => some k | false => r.lookup z) = some i ∧ _) h (fun e => ?_) fun e h => ?_
      · rw [e, beq_self_eq_true]; exact ⟨rfl, beq_iff_eq.mp hf⟩
      · rw [beq_false_of_ne e]; exact lookup_freeOf h
    · rename_i hf
      have q := lookup_freeOf (Δ := r) h
      have e : z ≠ n := fun e => hf (beq_iff_eq.mpr (e ▸ q.2))
      rw [beq_false_of_ne e]; exact q
@[elab_as_elim] theorem PE.setE {ρ : PE} {i j : Nat} {v u : PV} {P : PV → Prop} (h : (ρ.set i v).get j = some u) (k1 : i = j → P v) (k2 : i ≠ j → ρ.get j = some u → P u) : P u := by
  refine bindE h fun w hw hu => ?_
  have hw := (List.getElem?_set ..).symm.trans hw
  by_cases hij : i = j
  · rw [if_pos hij] at hw
    refine ifE hw fun _ hw => ?_
    have e := (Option.some.inj hw).trans hu
    exact Option.some.inj e ▸ k1 hij
  · rw [if_neg hij] at hw
    exact k2 hij (by show (ρ.vals[j]?).bind _ = _; rw [hw]; exact hu)
theorem PE.own_set {ρ : PE} {i : Nat} {v : PV} : (ρ.set i v).own = ρ.own := rfl
theorem bindT_own {tg : Tg} {d : PV} {ρ ρ' : PE} (h : bindT tg d ρ = some ρ') : ρ'.own = ρ.own := by
  cases tg with
  | one => rw [(bindT_one h).1]; rfl
  | two => obtain ⟨a, b, rfl, rfl⟩ := bindT_two h; rfl
/-- what the names of a target read, after its store -/
theorem TgSet.look {tg : Tg} {env : Env} {O : List Addr} {h : Heap} {d : PV} {ρ ρ' : PE} (hs : TgSet env O h tg d) (hb : bindT tg d ρ = some ρ') (hd : tg.slots.Nodup) {z : Str} {i : Nat} {pv : PV} (hz : tg.tab.lookup z = some i) (hg : ρ'.get i = some pv) :
    ∃ v, Look env h z v ∧ Rep O h v pv := by
  cases tg with
  | one x k =>
    rw [(bindT_one hb).1] at hg
    refine lookupE (P := fun i => (ρ.set k d).get i = some pv → ∃ v, Look env h z v ∧ Rep O h v pv) hz (fun e hg => ?_) (fun _ h => none_some h) hg
    exact PE.setE hg (fun _ => e ▸ hs) fun h1 _ => absurd rfl h1
  | two x k y l =>
    obtain ⟨a, b, rfl, rfl⟩ := bindT_two hb
    obtain ⟨s1, s2⟩ := hs a b rfl
    have hkl : k ≠ l := fun e => (List.nodup_cons.mp hd).1 (e ▸ .head _)
    refine lookupE (P := fun i => ((ρ.set k a).set l b).get i = some pv → ∃ v, Look env h z v ∧ Rep O h v pv) hz (fun e hg => ?_) (fun _ hz hg => lookupE (P := fun i => ((ρ.set k a).set l b).get i = some pv → ∃ v, Look env h z v ∧ Rep O h v pv) hz (fun e hg => ?_) (fun _ h => none_some h) hg) hg
    · exact PE.setE hg (fun h1 => absurd h1.symm hkl) fun _ hg => PE.setE hg (fun _ => e ▸ s1) fun h1 _ => absurd rfl h1
    · exact PE.setE hg (fun _ => e ▸ s2) fun h1 _ => absurd rfl h1
theorem bindT_get {tg : Tg} {d : PV} {ρ ρ' : PE} (hb : bindT tg d ρ = some ρ') {i : Nat} {pv : PV} (hi : i ∉ tg.slots) (hg : ρ'.get i = some pv) : ρ.get i = some pv := by
  cases tg with
  | one x k =>
    rw [(bindT_one hb).1] at hg
    exact PE.setE (P := fun pv => ρ.get i = some pv) hg (fun h1 => absurd (h1 ▸ .head _) hi) fun _ h => h
  | two x k y l =>
    obtain ⟨a, b, rfl, rfl⟩ := bindT_two hb
    exact PE.setE (P := fun pv => ρ.get i = some pv) hg (fun h1 => absurd (h1 ▸ .tail _ (.head _)) hi) fun _ h => PE.setE (P := fun pv => ρ.get i = some pv) h (fun h1 => absurd (h1 ▸ .head _) hi) fun _ h => h
theorem lookup_none {α : Type} {z : Str} {l : List (Str × α)} (h : l.lookup z = none) : z ∉ l.map (·.1) := fun hm => by
  obtain ⟨p, hp, rfl⟩ := List.mem_map.mp hm
  have e := List.lookup_eq_none_iff.mp h p hp
  exact (bne_iff_ne.mp e) rfl
theorem tab_names {tg : Tg} {z : Str} (h : tg.tab.lookup z = none) : z ∉ tg.names := lookup_none h

theorem cEnv_ok {sc : List (Str × NameKind)} {Δ : List (Str × Nat)} {O O' : List Addr} {env : Env} {ρ ρ' : PE} {h₀ h₃ h' : Heap} {scope : Scope} {tg : Tg} {d : PV} (hc : CompScope sc scope) (x : EnvOk sc Δ O env ρ h₀)
    (i' : EnvIn (cEnv scope env h₃) h') (hset : TgSet (cEnv scope env h₃) O' h' tg d) (hbind : bindT tg d ρ.bare = some ρ') (hd : tg.slots.Nodup) (hsl : ∀ p ∈ Δ, p.2 ∉ tg.slots)
    (hk : ∀ b o, h₀.get? b = some o → h'.get? b = some o) (hrep : ∀ v d, Rep O h₀ v d → Rep O' h' v d) (hO' : Alive O' h') (hsub : ∀ a ∈ own (cEnv scope env h₃), a ∈ O') :
    EnvOk scope.names (tg.tab ++ freeOf scope.names Δ) O' (cEnv scope env h₃) ρ' h' where
  kind := hc.kind
  globals := x.globals
  builtins := x.builtins
  gl := fun z hz => by rw [relabel_lookup, hz]; rfl
  clos := fun z hz => by
    rcases hz with hz | hz
    · have := cEnv_sto (env := env) (h := h₃) hc.nodup (.inr hz)
      rcases this with h1 | ⟨h1, h2⟩
      · rw [relabel_lookup, hz] at h1; cases h1
      · exact ⟨.inl h1, h2⟩
    · obtain ⟨c, h2⟩ := (x.clos z (hc.free z (mem_of_lookup hz))).2
      exact ⟨relabel_free hz, c, cells_lookup hc.nodup (mem_of_lookup hz) h2⟩
  envin := i'
  vars := fun z i pv h1 h2 => by
    rw [List.lookup_append] at h1
    cases ht : tg.tab.lookup z with
    | some k =>
      rw [ht] at h1
      cases h1
      exact hset.look hbind hd ht h2
    | none =>
      rw [ht] at h1
      obtain ⟨h3, h4⟩ := lookup_freeOf h1
      have h5 := bindT_get hbind (hsl _ (mem_of_lookup h3)) h2
      obtain ⟨v, hl, hr⟩ := x.vars z i pv h3 h5
      obtain ⟨hkz, c, hcz⟩ := x.clos z (hc.free z (mem_of_lookup h4))
      refine ⟨v, .inr ⟨relabel_free h4, c, cells_lookup hc.nodup (mem_of_lookup h4) hcz, ?_⟩, hrep v pv hr⟩
      · rcases hl with ⟨h6, _⟩ | ⟨_, c', h6, h7⟩
        · rcases hkz with h8 | h8 <;> rw [h8] at h6 <;> cases h6
        · rw [hcz] at h6
          cases h6
          exact h7.keeps hk
  own := fun i xs h1 => by rw [bindT_own hbind] at h1; cases h1
  alive := hO'
  sub := hsub
end Mine
end

-- Q9
section
open PySem PyProof.Rows PySem.Calls PySem.Spec PySem.W
set_option maxRecDepth 100000
set_option autoImplicit false
namespace Mine

theorem EnvIn.but {env : Env} {h h' : Heap} (x : EnvIn env h) (k : ∀ b ∈ own env, ∀ o, h.get? b = some o → h'.get? b = some o) : EnvIn env h' :=
  ⟨let ⟨m, n⟩ := x.ns; ⟨m, n.at' fun o q => k _ (List.mem_cons_self ..) o q⟩,
   fun n c hc => let ⟨v, o, e, d⟩ := x.cell n c hc; ⟨v, o, k c (List.mem_cons_of_mem _ (List.mem_map.mpr ⟨_, hc, rfl⟩)) o e, d⟩, x.apart⟩
theorem EnvIn.alive {env : Env} {h : Heap} (i : EnvIn env h) : Alive (own env) h := fun b hb => by
  rcases List.mem_cons.mp hb with rfl | hb
  · obtain ⟨m, o, _, _, e, _⟩ := i.ns; exact ⟨o, e⟩
  · obtain ⟨⟨n, c⟩, hm, rfl⟩ := List.mem_map.mp hb
    obtain ⟨v, o, e, _⟩ := i.cell n c hm; exact ⟨o, e⟩
theorem RepL.push {O : List Addr} {h : Heap} {ys : Array Value} {ds : List PV} {v : Value} {d : PV} (r : RepL O h ys.toList ds) (q : Rep O h v d) : RepL O h (ys.push v).toList (ds ++ [d]) :=
  by rw [Array.toList_push]; exact r.append (.cons q .nil)
theorem ltTrans {a b : Nat} (h : a < b) (h' : b < a) : False := Nat.lt_irrefl _ (Nat.lt_trans h h')

/-- the frame of a comprehension: its own addresses are new, or the outer frame's -/
structure CFr (O wr : List Addr) (s s₂ : Shared) (cE : Env) (ns : List Str) : Prop where
  kp : Kp s s₂
  own' : ∀ b ∈ own cE, s₂.heap.objs.size < b ∨ (b ∈ O ∧ ∃ o, s.heap.get? b = some o)
  at' : ∀ b, At cE ns b → s₂.heap.objs.size < b
  wrNew : ∀ b ∈ wr, s.heap.get? b = none
  wrAt : ∀ b ∈ wr, ∃ o, s₂.heap.get? b = some o
section
variable {O wr : List Addr} {s s₂ : Shared} {cE : Env} {ns : List Str} (c : CFr O wr s s₂ cE ns)
include c
theorem CFr.ltD {b : Addr} {o : Obj} (e : s₂.heap.get? b = some o) : b ≠ s₂.heap.objs.size := Nat.ne_of_lt (Heap.lt_size e)
theorem CFr.ltAt {b : Addr} {o : Obj} (e : s₂.heap.get? b = some o) : ¬ At cE ns b := fun h => ltTrans (c.at' b h) (Heap.lt_size e)
theorem CFr.notWr {b : Addr} {o : Obj} (e : s.heap.get? b = some o) : b ∉ wr := fun h => nomatch (c.wrNew b h).symm.trans e
theorem CFr.Dwr : s₂.heap.objs.size ∉ wr := fun h => let ⟨_, e⟩ := c.wrAt _ h; Nat.lt_irrefl _ (Heap.lt_size e)
theorem CFr.ownNew {b : Addr} (h : b ∈ own cE) : s₂.heap.get? b = none ∨ b ∈ O := (c.own' b h).elim (fun h => .inl (new_ge (Nat.le_of_lt h))) fun h => .inr h.1
theorem CFr.ownWr {b : Addr} (h : b ∈ own cE) : b ∉ wr := fun hw => (c.own' b h).elim (fun h => let ⟨_, e⟩ := c.wrAt b hw; ltTrans h (Heap.lt_size e)) fun ⟨_, _, e⟩ => c.notWr e hw
theorem CFr.ownD {b : Addr} (h : b ∈ own cE) : b ≠ s₂.heap.objs.size := (c.own' b h).elim (fun h e => Nat.lt_irrefl _ (e ▸ h)) fun ⟨_, _, e⟩ => c.ltD (c.kp.get e)
end
/-- the addresses in use -/
noncomputable abbrev cX (O wr : List Addr) (s₂ : Shared) (cE : Env) : List Addr := s₂.heap.objs.size :: wr ++ own cE ++ O
theorem cX_D {O wr : List Addr} {s₂ : Shared} {cE : Env} : s₂.heap.objs.size ∈ cX O wr s₂ cE := .head _
theorem cX_wr {O wr : List Addr} {s₂ : Shared} {cE : Env} {b : Addr} (h : b ∈ wr) : b ∈ cX O wr s₂ cE := .tail _ (List.mem_append_left _ (List.mem_append_left _ h))
theorem cX_own {O wr : List Addr} {s₂ : Shared} {cE : Env} {b : Addr} (h : b ∈ own cE) : b ∈ cX O wr s₂ cE := .tail _ (List.mem_append_left _ (List.mem_append_right _ h))
theorem cX_O {O wr : List Addr} {s₂ : Shared} {cE : Env} {b : Addr} (h : b ∈ O) : b ∈ cX O wr s₂ cE := .tail _ (List.mem_append_right _ h)
theorem cX_all {O wr : List Addr} {s₂ : Shared} {cE : Env} {P : Addr → Prop} (h1 : P s₂.heap.objs.size) (h2 : ∀ b ∈ wr, P b) (h3 : ∀ b ∈ own cE, P b) (h4 : ∀ b ∈ O, P b) : ∀ b ∈ cX O wr s₂ cE, P b := fun b hb =>
  (List.mem_cons.mp hb).elim (fun e => e ▸ h1) fun hb => (List.mem_append.mp hb).elim (fun hb => (List.mem_append.mp hb).elim (h2 b) (h3 b)) (h4 b)

/-- what stands after some turns -/
structure CSt (O wr : List Addr) (s₂ : Shared) (cE : Env) (St : Nat → Heap → Prop) (i : Nat) (yv : Array Value) (done : List PV) (h : Heap) : Prop where
  st : St i h
  hin : EnvIn cE h
  acc : h.PlainList s₂.heap.objs.size yv
  r : RepL (cX O wr s₂ cE) h yv.toList done
  k : ∀ b o, b ∉ wr → s₂.heap.get? b = some o → h.get? b = some o
inductive CI (O wr : List Addr) (s₂ : Shared) (cE : Env) (St : Nat → Heap → Prop) (f : PV → Option (Option PV)) (ds ys : List PV) : Nat → Shared → Prop
  | mk {i : Nat} {yv : Array Value} {done rest : List PV} (h : Heap) (tk : Nat) (x : CSt O wr s₂ cE St i yv done h) (go : compGo f (ds.drop i) = some rest) (hys : done ++ rest = ys) (hi : i ≤ ds.length) (hyi : yv.size ≤ i) : CI O wr s₂ cE St f ds ys (ds.length + 1 - i) { s₂ with heap := h, toks := tk }

section
variable {prog : Program} {w : World} {A : Around} {O : List Addr} {s s₂ : Shared} {env : Env} {sc : List (Str × NameKind)} {Δ : List (Str × Nat)} {ρ : PE}
/-- what the turns of a comprehension must do -/
noncomputable def CompBody (prog : Program) (w : World) (A : Around) (HP : Heap → Prop) (Δ : List (Str × Nat)) (ρ : PE) (scope : Scope) (tg : Tg) (ifs : List Expr) (elt : Expr) (f : PV → Option (Option PV)) : Prop :=
  ∀ d r, f d = some r → ∃ ρ', bindT tg d ρ.bare = some ρ' ∧ ∀ (O' : List Addr) (cenv : Env) (s' : Shared), EnvOk scope.names (tg.tab ++ freeOf scope.names Δ) O' cenv ρ' s'.heap → HP s'.heap →
    ∀ (Q : Bool → Shared → Prop) (E : Value → Shared → Prop), (∀ s'', Kp s' s'' → r = none → Q false s'') → (∀ s'', Kp s' s'' → (∃ z, r = some z ∧ Ok prog w A O' s'' (eval elt cenv) z) → Q true s'') →
      wpAny (model prog w) A (forIn ifs true fun c r => if r = true then do let ok ← isTrue c cenv (eval c cenv); pure (ForInStep.yield ok) else pure (ForInStep.yield r)) Q E s'

section
variable {target elt : Expr} {tg : Tg} {ds ys : List PV} {I : Addr} {fp wr : List Addr} {P Md : Nat → Value → Heap → Prop} {St : Nat → Heap → Prop} {cE : Env} {i : Nat} {yv : Array Value} {done : List PV} {h h' : Heap}
theorem CSt.grow (F : FeedAt prog w A target O s tg ds s₂ I fp wr P Md St) (x : CSt O wr s₂ cE St i yv done h) (g : ∀ b o, h.get? b = some o → h'.get? b = some o) : CSt O wr s₂ cE St i yv done h' :=
  ⟨F.turns.frame _ _ _ x.st fun b _ o e => g b o e, x.hin.heap g, x.acc.at fun o e => g _ o e, x.r.heap g, fun b o hb e => g b o (x.k b o hb e)⟩
/-- the iterator's own writes -/
theorem CSt.fed {j : Nat} (c : CFr O wr s s₂ cE tg.names) (x : CSt O wr s₂ cE St i yv done h) (st : St j h') (g : ∀ b o, b ∉ wr → h.get? b = some o → h'.get? b = some o) : CSt O wr s₂ cE St j yv done h' :=
  ⟨st, x.hin.but fun b hb o e => g b o (c.ownWr hb) e, x.acc.at fun o e => g _ o c.Dwr e, x.r.mono (fun _ ha _ => ha) fun a o ha q => g a o (fun hm => ha (cX_wr hm)) q, fun b o hb e => g b o hb (x.k b o hb e)⟩
/-- the target is set -/
theorem CSt.set (F : FeedAt prog w A target O s tg ds s₂ I fp wr P Md St) (c : CFr O wr s s₂ cE tg.names) (x : CSt O wr s₂ cE St i yv done h) (hin : EnvIn cE h') (g : ∀ b o, ¬ At cE tg.names b → h.get? b = some o → h'.get? b = some o) : CSt O wr s₂ cE St i yv done h' :=
  ⟨F.turns.frame _ _ _ x.st fun b hb o e => g b o (let ⟨_, q⟩ := F.fpAt b hb; c.ltAt q) e, hin, x.acc.at fun o e => g _ o (fun ha => Nat.lt_irrefl _ (c.at' _ ha)) e, x.r.mono (fun _ ha _ => ha) fun a o ha q => g a o (fun hat => ha (cX_own hat.own)) q, fun b o hb e => g b o (c.ltAt e) (x.k b o hb e)⟩
/-- one more -/
theorem CSt.push (F : FeedAt prog w A target O s tg ds s₂ I fp wr P Md St) (c : CFr O wr s s₂ cE tg.names) (x : CSt O wr s₂ cE St i yv done h) {y : Value} {z : PV} (hy : Rep (cX O wr s₂ cE) h y z) (hl : h'.PlainList s₂.heap.objs.size (yv.push y)) (g : ∀ b, b ≠ s₂.heap.objs.size → h'.get? b = h.get? b) : CSt O wr s₂ cE St i (yv.push y) (done ++ [z]) h' :=
  have m : Mv (cX O wr s₂ cE) (cX O wr s₂ cE) h h' := ⟨fun _ ha _ => ha, fun a o ha q => (g a fun e => ha (e ▸ cX_D)).trans q⟩
  ⟨F.turns.frame _ _ _ x.st fun b hb o e => (g b (let ⟨_, q⟩ := F.fpAt b hb; c.ltD q)).trans e, x.hin.but fun b hb o e => (g b (c.ownD hb)).trans e, hl, (x.r.mono' m).push (hy.mono' m), fun b o hb e => (g b (c.ltD e)).trans (x.k b o hb e)⟩
theorem CSt.alive (F : FeedAt prog w A target O s tg ds s₂ I fp wr P Md St) (c : CFr O wr s s₂ cE tg.names) (x : CSt O wr s₂ cE St i yv done h) (hO : Alive O s.heap) : Alive (cX O wr s₂ cE) h :=
  cX_all (let ⟨_, e⟩ := x.acc; ⟨_, e⟩) (F.alive _ _ x.st) x.hin.alive fun b hb => let ⟨o, e⟩ := hO b hb; ⟨o, x.k b o (c.notWr e) (c.kp.get e)⟩
theorem CSt.old (c : CFr O wr s s₂ cE tg.names) (x : CSt O wr s₂ cE St i yv done h) : ∀ b o, s.heap.get? b = some o → h.get? b = some o := fun b o e => x.k b o (c.notWr e) (c.kp.get e)
theorem CFr.out (c : CFr O wr s s₂ cE tg.names) : Mv O (cX O wr s₂ cE) s.heap s.heap := ⟨fun a ha ⟨o, q⟩ hm => cX_all (P := fun b => b = a → False) (fun e => c.ltD (c.kp.get q) e.symm) (fun b hw e => c.notWr q (e ▸ hw)) (fun b ho e => (c.ownNew ho).elim (fun h => nomatch (h.symm.trans ((congrArg s₂.heap.get? e).trans (c.kp.get q)) : Option.none = some o)) fun h => ha (e ▸ h)) (fun b ho e => ha (e ▸ ho)) a hm rfl, fun _ _ _ e => e⟩
end

section
variable {elt target iter : Expr} {ifs : List Expr} {scope : Scope} {pos : Pos} {tg : Tg} {ds ys : List PV} {f : PV → Option (Option PV)} {I : Addr} {fp wr : List Addr} {P Md : Nat → Value → Heap → Prop} {St : Nat → Heap → Prop} {HP : Heap → Prop} {mg mb : Str → Option Value} {R : Result → Shared → Prop} {h₃ : Heap}
theorem comp_loop (W : Wd HP mg mb) (hp : HP s.heap) (hh : A.handled = none)
    (hc : CompScope sc scope) (hT : tg.Is target) (htg : ∀ x ∈ tg.names, scope.names.lookup x = some .local ∨ scope.names.lookup x = some .cell) (hd : tg.slots.Nodup) (hsl : ∀ p ∈ Δ, p.2 ∉ tg.slots)
    (x : EnvOk sc Δ O env ρ s.heap) (F : FeedAt prog w A target O s tg ds s₂ I fp wr P Md St) (c : CFr O wr s s₂ (cEnv scope env h₃) tg.names) (hlen : ds.length ≤ sizeLine) (body : CompBody prog w A HP Δ ρ scope tg ifs elt f)
    (hR : ∀ h yv i, CSt O wr s₂ (cEnv scope env h₃) St i yv ys h → ∀ h₁ tk₁, (∀ b o, b ∉ wr → h.get? b = some o → h₁.get? b = some o) → R (.ok .next) { s₂ with heap := h₁, toks := tk₁ }) (n : Nat) (s' : Shared) (hI : CI O wr s₂ (cEnv scope env h₃) St f ds ys n s') :
    codeAny (model prog w) A (.compLoop (.ListComp elt [⟨target, iter, ifs, 0⟩] scope pos) 0 (.ref I) (.ref s₂.heap.objs.size) (cEnv scope env h₃)) R s' := by
  refine compLoop_go (CI O wr s₂ (cEnv scope env h₃) St f ds ys) (fun n s' hI => ?_) n hI
  cases hI with
  | @mk i yv done rest h' tk X hrest hys hi hyi =>
  rcases Nat.lt_or_eq_of_le hi with hlt | hin
  · refine F.turns.item i _ _ _ hlt X.st fun v h₁ tk₁ hMd hk₁ => F.turns.go i v _ _ _ hMd fun h₂ hP hst₂ hk₂ => ?_
    have X₂ := X.fed c hst₂ fun b o hb e => hk₂ b o hb (hk₁ b o hb e)
    have hit := F.item i v h₂ (s₂.heap.objs.size :: wr ++ own (cEnv scope env h₃)) hP (fun b o hw _ e => X₂.k b o hw e) fun b hb => (List.mem_append.mp hb).elim (fun hb => (List.mem_cons.mp hb).elim (fun e => .inr (.inl (e ▸ get_size _))) .inl) fun hb => .inr (c.ownNew hb)
    have hrest : ∀ d, ds[i]? = some d → compGo f (d :: ds.drop (i + 1)) = some rest := fun d hdi => by
      rw [List.drop_eq_getElem_cons hlt, Option.some.inj ((List.getElem?_eq_getElem hlt).symm.trans hdi)] at hrest
      exact hrest
    refine hit.elim fun d hit => bindE (hrest d hit.1) fun r hfd hrest => bindE hrest fun ys' hys' hrest => (body d r hfd).elim fun ρ' hbody => ?_
    refine tg_assign hT hh hc.kind (fun z hz => cEnv_sto hc.nodup (htg z hz)) (fun b hb => cX_own hb) X₂.hin hit.2 hbody.1 fun h₃ tk₃ st₃ => ?_
    have X₃ := X₂.set F c st₃.i st₃.k
    refine hbody.2 _ _ { s₂ with heap := h₃, toks := tk₃ } (cEnv_ok hc x st₃.i st₃.s hbody.1 hd hsl (X₃.old c) (fun v d hrd => (hrd.mono' c.out).heap (X₃.old c)) (X₃.alive F c x.alive) fun b hb => cX_own hb) (W.mono _ _ (X₃.old c) hp) _ _ (fun s₄ k4 hrn => ?_) fun s₄ k4 hrs => ?_
    · subst hrn
      obtain ⟨⟨h₄, tk₄, rfl⟩, k4k⟩ := k4
      have e : ys' = rest := Option.some.inj hrest
      exact ⟨_, Nat.sub_lt_sub_left (Nat.lt_succ_of_lt hlt) (Nat.lt_succ_self i), .mk _ _ (X₃.grow F k4k) hys' (e ▸ hys) hlt (Nat.le_succ_of_le hyi)⟩
    · obtain ⟨z, rfl, hz⟩ := hrs
      refine hz _ _ fun y s₅ k5 hy => ?_
      obtain ⟨⟨h₅, tk₅, rfl⟩, k5k⟩ := k4.trans k5
      have X₅ := X₃.grow F k5k
      refine wpAny_list_append_plain X₅.acc (fun h₆ hl₆ hs₆ => ⟨_, Nat.sub_lt_sub_left (Nat.lt_succ_of_lt hlt) (Nat.lt_succ_self i), .mk _ _ (X₅.push F c hy hl₆ hs₆.2) hys' ?_ hlt (Array.size_push _ ▸ Nat.succ_le_succ hyi)⟩) (Nat.le_trans hyi (Nat.le_trans hi hlen))
      rw [← hys, ← Option.some.inj hrest, List.append_assoc]; rfl
  · subst hin
    rw [List.drop_length] at hrest
    have e : done = ys := by rw [← hys, ← Option.some.inj hrest, List.append_nil]
    exact F.turns.done _ _ _ X.st fun h₁ tk₁ hk₁ => hR h' yv _ (e ▸ X) h₁ tk₁ hk₁
end
theorem comp_core {elt target iter : Expr} {ifs : List Expr} {scope : Scope} {pos : Pos} {tg : Tg} {ds ys : List PV} {f : PV → Option (Option PV)} {I : Addr} {fp wr : List Addr} {P Md : Nat → Value → Heap → Prop} {St : Nat → Heap → Prop}
    {E : Value → Shared → Prop} {RR : Value → Addr → Result → Shared → Prop} {HP : Heap → Prop} {mg mb : Str → Option Value} (W : Wd HP mg mb) (hp : HP s.heap) (hh : A.handled = none)
    (hc : CompScope sc scope) (hT : tg.Is target) (htg : ∀ x ∈ tg.names, scope.names.lookup x = some .local ∨ scope.names.lookup x = some .cell) (hd : tg.slots.Nodup) (hsl : ∀ p ∈ Δ, p.2 ∉ tg.slots)
    (x : EnvOk sc Δ O env ρ s.heap) (F : FeedAt prog w A target O s tg ds s₂ I fp wr P Md St) (hlen : ds.length ≤ sizeLine) (hgo : compGo f ds = some ys) (body : CompBody prog w A HP Δ ρ scope tg ifs elt f)
    (hRR : ∀ D C h' tk m', s.heap.get? D = none → s.heap.get? C = none → D ≠ C → h'.Ns C m' → Rep (C :: O) h' (.ref D) (.lst ys) → (∀ b o, s.heap.get? b = some o → h'.get? b = some o) → RR (.ref D) C (.ok .next) { s₂ with heap := h', toks := tk }) :
    wpAny (model prog w) A (newList []) (fun acc s₃ => wpAny (model prog w) A (newFunctionEnv scope env.globals (closL env.cells scope.names []) [] env.qual none .none (some env)) (fun cenv s₄ =>
      codeAny (model prog w) A (.compStart (.ListComp elt [⟨target, iter, ifs, 0⟩] scope pos) 0 (.ref I) acc { cenv with scope := relabel scope env }) (RR acc cenv.locals) s₄) E s₃) E s₂ := by
  refine wpAny_newObj_type (newEnv_comp ?_)
  show codeAny (model prog w) A (.compStart (.ListComp elt [⟨target, iter, ifs, 0⟩] scope pos) 0 (.ref I) (.ref s₂.heap.objs.size) (cEnv scope env (s₂.heap.push { cls := .type "list", data := .seq ([] : List Value).toArray }))) _
    { s₂ with heap := cHeap scope (s₂.heap.push { cls := .type "list", data := .seq ([] : List Value).toArray }) }
  have hC : (s₂.heap.push { cls := .type "list", data := .seq ([] : List Value).toArray }).objs.size = s₂.heap.objs.size + 1 := Heap.size_push ..
  have keep1 : ∀ b o, s₂.heap.get? b = some o → (s₂.heap.push { cls := .type "list", data := .seq ([] : List Value).toArray }).get? b = some o := fun b o e => Heap.get?_push_of_some _ e
  have hacc : (s₂.heap.push { cls := .type "list", data := .seq ([] : List Value).toArray }).get? s₂.heap.objs.size = some { cls := .type "list", data := .seq ([] : List Value).toArray } := Heap.get?_push_size _ rfl
  generalize s₂.heap.push { cls := .type "list", data := .seq ([] : List Value).toArray } = H2 at hC keep1 hacc ⊢
  have keep0 : ∀ b o, s₂.heap.get? b = some o → (cHeap scope H2).get? b = some o := fun b o e => pushCells_keeps _ _ b o (Heap.get?_push_of_some _ (keep1 b o e))
  have c : CFr O wr s s₂ (cEnv scope env H2) tg.names := ⟨F.kp, fun b hb => by
    rcases List.mem_cons.mp hb with rfl | hb
    · exact .inl (Nat.lt_of_lt_of_eq (Nat.lt_succ_self _) hC.symm)
    · obtain ⟨⟨n, c⟩, hm, rfl⟩ := List.mem_map.mp hb
      rw [cells_is] at hm
      rcases List.mem_append.mp hm with hm | hm
      · exact .inl (Nat.lt_of_lt_of_le (Nat.lt_of_lt_of_eq (Nat.lt_succ_self _) hC.symm) (Nat.le_of_succ_le ((cells_new scope H2).empty n c hm).2))
      · obtain ⟨h1, h2⟩ := closL_mem hm
        obtain ⟨c', hc'⟩ := (x.clos n (hc.free n h1)).2
        rw [hc'] at h2
        obtain ⟨v, o', e', _⟩ := x.envin.cell n c' (mem_of_lookup hc')
        have h2 : c = c' := h2
        exact h2 ▸ .inr ⟨x.sub _ (List.mem_cons_of_mem _ (List.mem_map.mpr ⟨_, mem_of_lookup hc', rfl⟩)), o', e'⟩, fun b hb => Nat.lt_of_succ_le (Nat.le_trans (Nat.le_of_eq hC.symm) (cEnv_new hc.nodup htg hb)), F.wrNew, fun b hb => F.fpAt b (F.turns.sub b hb)⟩
  have st0 := F.turns.frame _ _ _ F.zero fun b _ o e => keep0 b o e
  have loop := comp_loop (iter := iter) (pos := pos) (R := RR (.ref s₂.heap.objs.size) (cEnv scope env H2).locals) W hp hh hc hT htg hd hsl x F c hlen body (fun h yv i X h₁ tk₁ hk₁ => by
    have k1s : ∀ b o, s.heap.get? b = some o → h₁.get? b = some o := fun b o e => hk₁ b o (c.notWr e) (X.old c b o e)
    obtain ⟨m, hn⟩ := (X.hin.but (h' := h₁) fun b hb o e => hk₁ b o (c.ownWr hb) e).ns
    have hDn : s.heap.get? s₂.heap.objs.size = none := F.kp.none (get_size _)
    have hDC : s₂.heap.objs.size ≠ (cEnv scope env H2).locals := Nat.ne_of_lt (Nat.lt_of_lt_of_eq (Nat.lt_succ_self _) hC.symm)
    refine hRR s₂.heap.objs.size (cEnv scope env H2).locals h₁ tk₁ m hDn (F.kp.none (new_ge (Nat.le_of_lt (Nat.lt_of_lt_of_eq (Nat.lt_succ_self _) hC.symm)))) hDC hn (.lst (fun hm => (List.mem_cons.mp hm).elim hDC fun hm => (x.alive.new hDn) hm) (X.acc.at fun o e => hk₁ _ o c.Dwr e).isList ?_) k1s
    exact X.r.mono (fun a ha _ hm => ha ((List.mem_cons.mp hm).elim (fun e => e ▸ cX_own (.head _)) cX_O)) fun a o ha q => hk₁ a o (fun hw => ha (cX_wr hw)) q) _ { s₂ with heap := cHeap scope H2 }
    (.mk (i := 0) (yv := #[]) (done := []) _ _ ⟨st0, cEnv_in ((x.kp F.kp).envin.heap keep1) hc.nodup fun n hn => (x.clos n (hc.free n hn)).2, ⟨_, pushCells_keeps _ _ _ _ (Heap.get?_push_of_some _ hacc)⟩, .nil, fun b o _ e => keep0 b o e⟩ hgo rfl (Nat.zero_le _) (Nat.zero_le _))
  exact codeAny_compStart_list loop (F.self { s₂ with heap := cHeap scope H2 } _ _ st0 loop)
end
end Mine
end

-- Q10
section
open PySem PyProof.Rows PySem.Calls PySem.Spec PySem.W
set_option maxRecDepth 100000
set_option autoImplicit false
namespace Mine

section
variable {prog : Program} {w : World} {A : Around} {O : List Addr} {s s₂ : Shared} {env : Env} {sc : List (Str × NameKind)} {Δ : List (Str × Nat)} {ρ : PE} {target : Expr} {Q E : Value → Shared → Prop}

theorem feed_bytes {b : Array UInt8} {t : Tok} {tg : Tg} (hh : A.handled = none) (h : ∀ it s₂, Feed prog w A target O s tg (b.toList.map fun c => .int c.toNat) it s₂ → Q it s₂) :
    wpAny (model prog w) A (pyIter (.bytes b t)) Q E s := by
  refine PySem.W.KBw.pyIter_bytes (h _ _ ?_)
  refine Feed.walks (PySem.W.KBw.walks (prog := prog) (w := w) hh s.heap.objs.size b t) (by simp) (fun i h st => let ⟨_, e, _⟩ := st; alive_one e) (fun i v s Q E hp _ q => by obtain ⟨_, _, _, rfl⟩ := hp; exact go_plain (by simp) q) ⟨_, Heap.get?_push_size _ rfl, rfl, rfl⟩ (Kp.push _ _) one_new (one_at rfl) (fun b hb => .inl (one_new b hb)) (fun i v hi hp => ?_)
  obtain ⟨c, u, hc, rfl⟩ := hp
  exact ⟨.int c.toNat, by simp [hc], fun _ _ _ _ => .ofRep (.int _ _)⟩

/-- a source that feeds -/
noncomputable def FeedOk (prog : Program) (w : World) (A : Around) (target : Expr) (O : List Addr) (s : Shared) (tg : Tg) (items : List PV) (iter : Expr) (env : Env) : Prop :=
  ∀ (Q E : Value → Shared → Prop), (∀ it s₂, Feed prog w A target O s tg items it s₂ → Q it s₂) → wpAny (model prog w) A (eval iter env) (fun xv s₁ => wpAny (model prog w) A (pyIter xv) Q E s₁) E s

/-- a value as a source -/
theorem feed_value {tg : Tg} {v : Value} {d : PV} {items : List PV} (hh : A.handled = none) (r : Rep O s.heap v d) (hi : itemsP d = some items)
    (h : ∀ it s₂, Feed prog w A target O s tg items it s₂ → Q it s₂) : wpAny (model prog w) A (pyIter v) Q E s := by
  cases r with
  | lst ha hl r => exact ifE hi fun _ hi => feed_list hh hl ha r (Option.some.inj hi ▸ h)
  | tup ha hl r => exact ifE hi fun _ hi => feed_tuple hh hl ha r (Option.some.inj hi ▸ h)
  | str x t => exact ifE hi fun _ hi => feed_str hh (Option.some.inj hi ▸ h)
  | byt x t => exact ifE hi fun _ hi => feed_bytes hh (Option.some.inj hi ▸ h)
  | _ => exact none_some hi
theorem comp_ok {elt target iter : Expr} {ifs : List Expr} {scope : Scope} {pos : Pos} {tg : Tg} {ds ys : List PV} {f : PV → Option (Option PV)} {HP : Heap → Prop} {mg mb : Str → Option Value} (W : Wd HP mg mb) (hp : HP s.heap) (hh : A.handled = none)
    (hc : CompScope sc scope) (hT : tg.Is target) (htg : ∀ x ∈ tg.names, scope.names.lookup x = some .local ∨ scope.names.lookup x = some .cell) (hd : tg.slots.Nodup) (hsl : ∀ p ∈ Δ, p.2 ∉ tg.slots)
    (x : EnvOk sc Δ O env ρ s.heap) (feed : FeedOk prog w A target O s tg ds iter env) (hset : ∀ v, foldedSetIterable iter env v = pure v) (hlen : ds.length ≤ sizeLine) (hgo : compGo f ds = some ys) (body : CompBody prog w A HP Δ ρ scope tg ifs elt f) :
    Ok prog w A O s (eval (.ListComp elt [⟨target, iter, ifs, 0⟩] scope pos) env) (.lst ys) := by
  intro Q E hQ
  rw [eval_ListComp]
  refine wpAny_comprehension_free (use := none) rfl hset (closureFor_closL fun n hn => (x.clos n (hc.free n hn)).2) hc.kind (fun y hy e => e ▸ lookup_of_mem hc.nodup hy) (feed _ _ fun it s₂ hf => ?_)
  obtain ⟨I, fp, wr, P, Md, St, rfl, F⟩ := hf
  refine comp_core (RR := fun acc C => compPost (model prog w) A E none Q acc C) W hp hh hc hT htg hd hsl x F hlen hgo body ?_
  intro D C h' tk m' hD hC hDC hn hr hk
  refine ⟨m', hn, fun h'' hs'' => ?_⟩
  obtain ⟨⟨h₂, t₂, e₂⟩, _⟩ := F.kp
  subst e₂
  refine hQ _ _ (Kp.of fun b o e => (hs''.2 b fun e' => ?_).trans (hk b o e)) (hr.mono (fun a ha _ hm => ha (List.mem_cons_of_mem _ hm)) fun a o ha q => (hs''.2 a fun e' => ha (e' ▸ List.mem_cons_self ..)).trans q)
  rw [e', hC] at e; cases e
end
end Mine
end

-- Q11
section
open PySem PyProof.Rows PySem.Calls PySem.Spec PySem.W
set_option maxRecDepth 100000
set_option autoImplicit false
namespace Mine

/-! the text's terms taken apart -/
theorem diteE {c : Prop} [Decidable c] {b : c → Bool} {P : Prop} (h : (if q : c then b q else false) = true) (k : ∀ q : c, b q = true → P) : P := by
  by_cases q : c
  · rw [dif_pos q] at h; exact k q h
  · rw [dif_neg q] at h; cases h
section
variable {t : Expr} {P : Expr → Prop}
noncomputable def onBoolOp (t : Expr) (k : BoolOp → List Expr → Pos → Bool) : Bool := if h : t.ctorIdx = 0 then Expr.BoolOp.elim (motive_1 := fun _ => Bool) t h k else false
@[elab_as_elim] theorem onBoolOpE {k : BoolOp → List Expr → Pos → Bool} (h : onBoolOp t k = true) (f : ∀ a b c, k a b c = true → P (.BoolOp a b c)) : P t := diteE h fun q h => Expr.BoolOp.elim (motive_1 := fun t => ∀ q, Expr.BoolOp.elim (motive_1 := fun _ => Bool) t q k = true → P t) t q (fun _ _ _ _ h => f _ _ _ h) q h
noncomputable def onBinOp (t : Expr) (k : Expr → Operator → Expr → Pos → Bool) : Bool := if h : t.ctorIdx = 2 then Expr.BinOp.elim (motive_1 := fun _ => Bool) t h k else false
@[elab_as_elim] theorem onBinOpE {k : Expr → Operator → Expr → Pos → Bool} (h : onBinOp t k = true) (f : ∀ a b c d, k a b c d = true → P (.BinOp a b c d)) : P t := diteE h fun q h => Expr.BinOp.elim (motive_1 := fun t => ∀ q, Expr.BinOp.elim (motive_1 := fun _ => Bool) t q k = true → P t) t q (fun _ _ _ _ _ h => f _ _ _ _ h) q h
noncomputable def onUnaryOp (t : Expr) (k : UnaryOp → Expr → Pos → Bool) : Bool := if h : t.ctorIdx = 3 then Expr.UnaryOp.elim (motive_1 := fun _ => Bool) t h k else false
@[elab_as_elim] theorem onUnaryOpE {k : UnaryOp → Expr → Pos → Bool} (h : onUnaryOp t k = true) (f : ∀ a b c, k a b c = true → P (.UnaryOp a b c)) : P t := diteE h fun q h => Expr.UnaryOp.elim (motive_1 := fun t => ∀ q, Expr.UnaryOp.elim (motive_1 := fun _ => Bool) t q k = true → P t) t q (fun _ _ _ _ h => f _ _ _ h) q h
noncomputable def onIfExp (t : Expr) (k : Expr → Expr → Expr → Pos → Bool) : Bool := if h : t.ctorIdx = 5 then Expr.IfExp.elim (motive_1 := fun _ => Bool) t h k else false
@[elab_as_elim] theorem onIfExpE {k : Expr → Expr → Expr → Pos → Bool} (h : onIfExp t k = true) (f : ∀ a b c d, k a b c d = true → P (.IfExp a b c d)) : P t := diteE h fun q h => Expr.IfExp.elim (motive_1 := fun t => ∀ q, Expr.IfExp.elim (motive_1 := fun _ => Bool) t q k = true → P t) t q (fun _ _ _ _ _ h => f _ _ _ _ h) q h
noncomputable def onListComp (t : Expr) (k : Expr → List Comprehension → Scope → Pos → Bool) : Bool := if h : t.ctorIdx = 8 then Expr.ListComp.elim (motive_1 := fun _ => Bool) t h k else false
@[elab_as_elim] theorem onListCompE {k : Expr → List Comprehension → Scope → Pos → Bool} (h : onListComp t k = true) (f : ∀ a b c d, k a b c d = true → P (.ListComp a b c d)) : P t := diteE h fun q h => Expr.ListComp.elim (motive_1 := fun t => ∀ q, Expr.ListComp.elim (motive_1 := fun _ => Bool) t q k = true → P t) t q (fun _ _ _ _ _ h => f _ _ _ _ h) q h
noncomputable def onCompare (t : Expr) (k : Expr → List CmpOp → List Expr → Pos → Bool) : Bool := if h : t.ctorIdx = 15 then Expr.Compare.elim (motive_1 := fun _ => Bool) t h k else false
@[elab_as_elim] theorem onCompareE {k : Expr → List CmpOp → List Expr → Pos → Bool} (h : onCompare t k = true) (f : ∀ a b c d, k a b c d = true → P (.Compare a b c d)) : P t := diteE h fun q h => Expr.Compare.elim (motive_1 := fun t => ∀ q, Expr.Compare.elim (motive_1 := fun _ => Bool) t q k = true → P t) t q (fun _ _ _ _ _ h => f _ _ _ _ h) q h
noncomputable def onCall (t : Expr) (k : Expr → List Expr → List Keyword → Pos → Bool) : Bool := if h : t.ctorIdx = 16 then Expr.Call.elim (motive_1 := fun _ => Bool) t h k else false
@[elab_as_elim] theorem onCallE {k : Expr → List Expr → List Keyword → Pos → Bool} (h : onCall t k = true) (f : ∀ a b c d, k a b c d = true → P (.Call a b c d)) : P t := diteE h fun q h => Expr.Call.elim (motive_1 := fun t => ∀ q, Expr.Call.elim (motive_1 := fun _ => Bool) t q k = true → P t) t q (fun _ _ _ _ _ h => f _ _ _ _ h) q h
noncomputable def onConstant (t : Expr) (k : Const → Nat → Pos → Bool) : Bool := if h : t.ctorIdx = 19 then Expr.Constant.elim (motive_1 := fun _ => Bool) t h k else false
@[elab_as_elim] theorem onConstantE {k : Const → Nat → Pos → Bool} (h : onConstant t k = true) (f : ∀ a b c, k a b c = true → P (.Constant a b c)) : P t := diteE h fun q h => Expr.Constant.elim (motive_1 := fun t => ∀ q, Expr.Constant.elim (motive_1 := fun _ => Bool) t q k = true → P t) t q (fun _ _ _ _ h => f _ _ _ h) q h
noncomputable def onAttribute (t : Expr) (k : Expr → Str → Pos → Bool) : Bool := if h : t.ctorIdx = 20 then Expr.Attribute.elim (motive_1 := fun _ => Bool) t h k else false
@[elab_as_elim] theorem onAttributeE {k : Expr → Str → Pos → Bool} (h : onAttribute t k = true) (f : ∀ a b c, k a b c = true → P (.Attribute a b c)) : P t := diteE h fun q h => Expr.Attribute.elim (motive_1 := fun t => ∀ q, Expr.Attribute.elim (motive_1 := fun _ => Bool) t q k = true → P t) t q (fun _ _ _ _ h => f _ _ _ h) q h
noncomputable def onSubscript (t : Expr) (k : Expr → Expr → Pos → Bool) : Bool := if h : t.ctorIdx = 21 then Expr.Subscript.elim (motive_1 := fun _ => Bool) t h k else false
@[elab_as_elim] theorem onSubscriptE {k : Expr → Expr → Pos → Bool} (h : onSubscript t k = true) (f : ∀ a b c, k a b c = true → P (.Subscript a b c)) : P t := diteE h fun q h => Expr.Subscript.elim (motive_1 := fun t => ∀ q, Expr.Subscript.elim (motive_1 := fun _ => Bool) t q k = true → P t) t q (fun _ _ _ _ h => f _ _ _ h) q h
noncomputable def onName (t : Expr) (k : Str → Pos → Bool) : Bool := if h : t.ctorIdx = 23 then Expr.Name.elim (motive_1 := fun _ => Bool) t h k else false
@[elab_as_elim] theorem onNameE {k : Str → Pos → Bool} (h : onName t k = true) (f : ∀ a b, k a b = true → P (.Name a b)) : P t := diteE h fun q h => Expr.Name.elim (motive_1 := fun t => ∀ q, Expr.Name.elim (motive_1 := fun _ => Bool) t q k = true → P t) t q (fun _ _ _ h => f _ _ h) q h
noncomputable def onList (t : Expr) (k : List Expr → Pos → Bool) : Bool := if h : t.ctorIdx = 24 then Expr.List.elim (motive_1 := fun _ => Bool) t h k else false
@[elab_as_elim] theorem onListE {k : List Expr → Pos → Bool} (h : onList t k = true) (f : ∀ a b, k a b = true → P (.List a b)) : P t := diteE h fun q h => Expr.List.elim (motive_1 := fun t => ∀ q, Expr.List.elim (motive_1 := fun _ => Bool) t q k = true → P t) t q (fun _ _ _ h => f _ _ h) q h
noncomputable def onTuple (t : Expr) (k : List Expr → Nat → Pos → Bool) : Bool := if h : t.ctorIdx = 25 then Expr.Tuple.elim (motive_1 := fun _ => Bool) t h k else false
@[elab_as_elim] theorem onTupleE {k : List Expr → Nat → Pos → Bool} (h : onTuple t k = true) (f : ∀ a b c, k a b c = true → P (.Tuple a b c)) : P t := diteE h fun q h => Expr.Tuple.elim (motive_1 := fun t => ∀ q, Expr.Tuple.elim (motive_1 := fun _ => Bool) t q k = true → P t) t q (fun _ _ _ _ h => f _ _ _ h) q h
noncomputable def onSlice (t : Expr) (k : Option Expr → Option Expr → Option Expr → Pos → Bool) : Bool := if h : t.ctorIdx = 26 then Expr.Slice.elim (motive_1 := fun _ => Bool) t h k else false
@[elab_as_elim] theorem onSliceE {k : Option Expr → Option Expr → Option Expr → Pos → Bool} (h : onSlice t k = true) (f : ∀ a b c d, k a b c d = true → P (.Slice a b c d)) : P t := diteE h fun q h => Expr.Slice.elim (motive_1 := fun t => ∀ q, Expr.Slice.elim (motive_1 := fun _ => Bool) t q k = true → P t) t q (fun _ _ _ _ _ h => f _ _ _ _ h) q h
end
section
variable {α : Type}
noncomputable def l0 (xs : List α) (k : Bool) : Bool := List.casesOn (motive := fun _ => Bool) xs k fun _ _ => false
noncomputable def l1 (xs : List α) (k : α → Bool) : Bool := List.casesOn (motive := fun _ => Bool) xs false fun a r => l0 r (k a)
noncomputable def l2 (xs : List α) (k : α → α → Bool) : Bool := List.casesOn (motive := fun _ => Bool) xs false fun a r => l1 r (k a)
@[elab_as_elim] theorem l0E {xs : List α} {k : Bool} {P : List α → Prop} (h : l0 xs k = true) (f : k = true → P []) : P xs := by
  cases xs with
  | nil => exact f h
  | cons => exact nomatch h
@[elab_as_elim] theorem l1E {xs : List α} {k : α → Bool} {P : List α → Prop} (h : l1 xs k = true) (f : ∀ a, k a = true → P [a]) : P xs := by
  cases xs with
  | nil => exact nomatch h
  | cons a r => exact l0E (P := fun r => P (a :: r)) h (f a)
@[elab_as_elim] theorem l2E {xs : List α} {k : α → α → Bool} {P : List α → Prop} (h : l2 xs k = true) (f : ∀ a b, k a b = true → P [a, b]) : P xs := by
  cases xs with
  | nil => exact nomatch h
  | cons a r => exact l1E (P := fun r => P (a :: r)) h (f a)
noncomputable def o0 (o : Option α) (k : Bool) : Bool := Option.casesOn (motive := fun _ => Bool) o k fun _ => false
noncomputable def o1 (o : Option α) (k : α → Bool) : Bool := Option.casesOn (motive := fun _ => Bool) o false k
@[elab_as_elim] theorem o0E {o : Option α} {k : Bool} {P : Option α → Prop} (h : o0 o k = true) (f : k = true → P none) : P o := by
  cases o with
  | none => exact f h
  | some => exact nomatch h
@[elab_as_elim] theorem o1E {o : Option α} {k : α → Bool} {P : Option α → Prop} (h : o1 o k = true) (f : ∀ a, k a = true → P (some a)) : P o := by
  cases o with
  | none => exact nomatch h
  | some a => exact f a h
end
/-- a generator that is not asynchronous -/
noncomputable def onGen (g : Comprehension) (k : Expr → Expr → List Expr → Bool) : Bool := decide (g.is_async = 0) && k g.target g.iter g.ifs
@[elab_as_elim] theorem onGenE {g : Comprehension} {k : Expr → Expr → List Expr → Bool} {P : Comprehension → Prop} (h : onGen g k = true) (f : ∀ a b c, k a b c = true → P ⟨a, b, c, 0⟩) : P g := by
  obtain ⟨a, b, c, d⟩ := g
  cases of_decide_eq_true (and1 h)
  exact f a b c (and2 h)
@[elab_as_elim] theorem beqE {α : Type} [BEq α] [LawfulBEq α] {a b : α} {c : Bool} {P : α → Prop} (h : (a == b && c) = true) (f : c = true → P b) : P a := eq_of_beq (and1 h) ▸ f (and2 h)
/-- neither a slice nor a set, no star and no call -/
noncomputable def notSlice (e : Expr) : Bool := decide (e.ctorIdx ≠ 26)
noncomputable def notSet (e : Expr) : Bool := decide (e.ctorIdx ≠ 7)
noncomputable def notStar (e : Expr) : Bool := decide (e.ctorIdx ≠ 22)
noncomputable def notCall (e : Expr) : Bool := decide (e.ctorIdx ≠ 16)
theorem subscripted_plain {e : Expr} (h : notSlice e = true) : PlainSub e := by cases e <;> first | exact fun _ _ => rfl | exact absurd rfl (of_decide_eq_true h)
theorem notSet_marks {op : CmpOp} {e : Expr} (h : notSet e = true) : behindInMarks op e = false := by cases e <;> first | rfl | exact absurd rfl (of_decide_eq_true h)
theorem notSet_folded {e : Expr} (h : notSet e = true) (env : Env) (v : Value) : foldedSetIterable e env v = pure v := by cases e <;> first | rfl | exact absurd rfl (of_decide_eq_true h)
theorem star_cons {e : Expr} {r : List Expr} {env : Env} (h : notStar e = true) : starEach (e :: r) env = (false, eval e env) :: starEach r env := by cases e <;> first | rfl | exact absurd rfl (of_decide_eq_true h)
theorem base_plain {o : Expr} {name : Str} {env : Env} {whole : Sem Value} (h : notCall o = true) : attributeBase o name env whole = whole := by cases o <;> first | rfl | exact absurd rfl (of_decide_eq_true h)

structure Cx where
  fn : Nat → Str
  gl : List (Str × Int)
noncomputable abbrev Sc := List (Str × NameKind)
noncomputable abbrev De := List (Str × Nat)
noncomputable def litOk (c : PV) (v : Const) : Bool := PV.casesOn (motive_1 := fun _ => Bool) c (decide (v = .none)) (fun b => decide (v = .bool b)) (fun i => decide (v = .int i)) (fun x => decide (v = .str x)) (fun b => decide (v = .bytes b.toList)) (fun _ => false) (fun _ => false) (fun _ => false)
noncomputable def isG (sc : Sc) (x : Str) : Bool := sc.lookup x == some .globalImplicit && !dbg x
noncomputable def tgIs (tg : Tg) (t : Expr) : Bool := Tg.casesOn (motive := fun _ => Bool) tg (fun x _ => onName t fun y _ => x == y) (fun x _ y _ => onTuple t fun es _ _ => l2 es fun a b => onName a fun a _ => onName b fun b _ => a == x && (b == y && x != y))
noncomputable def isTwo (tg : Tg) : Bool := Tg.casesOn (motive := fun _ => Bool) tg (fun _ _ => false) fun _ _ _ _ => true
noncomputable def scopeOk (sc : Sc) (scope : Scope) (tg : Tg) (Δ : De) : Bool :=
  decide (scope.kind = .function) && (decide (scope.names.map (·.1)).Nodup && (decide (∀ p ∈ scope.names, p.2 = .free → sc.lookup p.1 = some .cell ∨ sc.lookup p.1 = some .free) &&
  (decide (∀ x ∈ tg.names, scope.names.lookup x = some .local ∨ scope.names.lookup x = some .cell) && (decide tg.slots.Nodup && decide (∀ p ∈ Δ, p.2 ∉ tg.slots)))))
/-- a call of a name of the text's globals, with no keywords -/
noncomputable def callN (sc : Sc) (nm : Str) (t : Expr) (k : List Expr → Bool) : Bool := onCall t fun g args kws _ => onName g fun x _ => l0 kws (x == nm && (isG sc nm && k args))
@[elab_as_elim] theorem callNE {sc : Sc} {nm : Str} {t : Expr} {k : List Expr → Bool} {P : Expr → Prop} (h : callN sc nm t k = true) (f : ∀ p args pos, isG sc nm = true → k args = true → P (.Call (.Name nm p) args [] pos)) : P t :=
  onCallE h fun g args kws pos h => onNameE (P := fun g => P (.Call g args kws pos)) h fun x p h => l0E (P := fun kws => P (.Call (.Name x p) args kws pos)) h fun h => beqE (P := fun x => P (.Call (.Name x p) args [] pos)) h fun h => f p args pos (and1 h) (and2 h)
noncomputable def isLR (b : BI) (x y : Bool) : Bool := BI.casesOn (motive := fun _ => Bool) b y y y y y y y y y y x
/-- a term that is a test by its form -/
noncomputable def isT (e : E) : Bool := decide (e.ctorIdx = 5) || (decide (e.ctorIdx = 6) || (decide (e.ctorIdx = 7) || decide (e.ctorIdx = 8)))
/-- a tree whose truth is looked at plainly -/
noncomputable def plainT (t : Expr) : Bool := decide (t.ctorIdx ≠ 0) && (decide (t.ctorIdx ≠ 5) && (decide (t.ctorIdx ≠ 15) && (onUnaryOp t (fun o _ _ => o == .USub) || decide (t.ctorIdx ≠ 3))))
noncomputable def tst (e : E) (t : Expr) : Bool := isT e || plainT t
noncomputable def TPlain (t : Expr) : Prop := ∀ (env : Env) (whole : Sem Value), isTrue t env whole = (do let v ← whole; standAt t.pos; holding [v] (truthy v))
theorem tplain {t : Expr} (h : plainT t = true) : TPlain t := by
  cases t with
  | UnaryOp o x pos => cases o <;> first | exact fun _ _ => rfl | exact (Bool.false_ne_true h).elim
  | _ => first | exact fun _ _ => rfl | exact (Bool.false_ne_true h).elim
mutual
noncomputable def chk (cx : Cx) : E → Sc → De → Expr → Bool
  | .lit c, _, _, t => onConstant t fun v _ _ => litOk c v
  | .var i, _, Δ, t => onName t fun x _ => decide (Δ.lookup x = some i) && !dbg x
  | .glob y v, sc, _, t => onName t fun x _ => x == y && (isG sc y && cx.gl.contains (y, v))
  | .bin op a b, sc, Δ, t => onBinOp t fun l o r _ => o == op && (chk cx a sc Δ l && chk cx b sc Δ r)
  | .neg a, sc, Δ, t => onUnaryOp t fun o x _ => o == .USub && chk cx a sc Δ x
  | .notE a, sc, Δ, t => onUnaryOp t fun o x _ => o == .Not && (tst a x && chk cx a sc Δ x)
  | .cmp op a b, sc, Δ, t => onCompare t fun l os rs _ => l1 os fun o => l1 rs fun r => o == op && (chk cx a sc Δ l && (chk cx b sc Δ r && notSet r))
  | .boolop op es, sc, Δ, t => onBoolOp t fun o vs _ => o == op && chkL cx es sc Δ vs
  | .ite c a b, sc, Δ, t => onIfExp t fun x y z _ => (tst c x && chk cx c sc Δ x) && ((tst a y && chk cx a sc Δ y) && (tst b z && chk cx b sc Δ z))
  | .call f es, sc, Δ, t => decide (f < 23) && callN sc (cx.fn f) t fun args => chkL cx es sc Δ args && !args.isEmpty
  | .bi b es, sc, Δ, t => callN sc (biName b) t fun args => isLR b (l1 args fun a => callN sc (Str.ofString "range") a fun args => chkL cx es sc Δ args && !args.isEmpty) (chkL cx es sc Δ args && !args.isEmpty)
  | .meth m o es, sc, Δ, t => onCall t fun g args kws pos => onAttribute g fun v name apos => l0 kws (name == miName m && (notCall v && (apos.endLine == pos.line && (decide (args.length < 20) && (chk cx o sc Δ v && chkL cx es sc Δ args)))))
  | .comp elt tg src, sc, Δ, t => onListComp t fun e gs scope _ => l1 gs fun g => onGen g fun tt it ifs => l0 ifs (tgIs tg tt && (scopeOk sc scope tg Δ && (chkS cx src sc Δ (isTwo tg) it && chk cx elt scope.names (tg.tab ++ freeOf scope.names Δ) e)))
  | .compIf elt tg src c, sc, Δ, t => onListComp t fun e gs scope _ => l1 gs fun g => onGen g fun tt it ifs => l1 ifs fun d => tgIs tg tt && (scopeOk sc scope tg Δ && (chkS cx src sc Δ (isTwo tg) it && (chk cx elt scope.names (tg.tab ++ freeOf scope.names Δ) e && (tst c d && chk cx c scope.names (tg.tab ++ freeOf scope.names Δ) d))))
  | .idx a i, sc, Δ, t => onSubscript t fun v sl _ => notSlice sl && (chk cx a sc Δ v && chk cx i sc Δ sl)
  | .slLo a lo, sc, Δ, t => onSubscript t fun v sl _ => onSlice sl fun l h st _ => o0 st (o0 h (o1 l fun l => chk cx a sc Δ v && chk cx lo sc Δ l))
  | .slHi a hi, sc, Δ, t => onSubscript t fun v sl _ => onSlice sl fun l h st _ => o0 st (o0 l (o1 h fun h => chk cx a sc Δ v && chk cx hi sc Δ h))
  | .slLH a lo hi, sc, Δ, t => onSubscript t fun v sl _ => onSlice sl fun l h st _ => o0 st (o1 l fun l => o1 h fun h => chk cx a sc Δ v && (chk cx lo sc Δ l && chk cx hi sc Δ h))
  | .tup es, sc, Δ, t => onTuple t fun elts _ _ => room elts.length && chkL cx es sc Δ elts
  | .list es, sc, Δ, t => onList t fun elts _ => room elts.length && chkL cx es sc Δ elts
  | .repl c n, sc, Δ, t => onBinOp t fun l o r _ => onList l fun es _ => l1 es fun a => onConstant a fun v _ _ => o == .Mult && (v == .int c && chk cx n sc Δ r)
  | .oidx i e, sc, Δ, t => onSubscript t fun v sl _ => onName v fun x _ => decide (Δ.lookup x = some i) && (!dbg x && (notSlice sl && chk cx e sc Δ sl))
  | .hattr o, sc, Δ, t => onAttribute t fun v nm _ => onName v fun x q => nm == Str.ofString "_headers" && chk cx o sc Δ (.Name x q)
  | .conv o e b, sc, Δ, t => onCall t fun g args kws pos => onAttribute g fun v nm apos => l1 args fun a => l1 kws fun kw => o1 kw.arg fun k => onConstant kw.value fun c _ _ => nm == Str.ofString "_convert_string_type" && (k == Str.ofString "name" && (c == .bool b && (notCall v && (notStar a && (apos.endLine == pos.line && (chk cx o sc Δ v && chk cx e sc Δ a))))))
noncomputable def chkL (cx : Cx) : EL → Sc → De → List Expr → Bool
  | .nil, _, _, xs => xs.isEmpty
  | .cons e r, sc, Δ, xs => List.casesOn (motive := fun _ => Bool) xs false fun x xs => notStar x && ((tst e x && chk cx e sc Δ x) && chkL cx r sc Δ xs)
noncomputable def chkS (cx : Cx) : Src → Sc → De → Bool → Expr → Bool
  | .exp e, sc, Δ, _, t => notSet t && chk cx e sc Δ t
  | .range es, sc, Δ, _, t => callN sc (Str.ofString "range") t fun args => chkL cx es sc Δ args && !args.isEmpty
  | .zip a b, sc, Δ, two, t => callN sc (Str.ofString "zip") t fun args => l2 args fun l r => two && (notStar l && (notStar r && (chk cx a sc Δ l && chk cx b sc Δ r)))
  | .enum a, sc, Δ, two, t => callN sc (Str.ofString "enumerate") t fun args => l1 args fun l => two && (notStar l && chk cx a sc Δ l)
end
end Mine
end

-- Q12
section
open PySem PyProof.Rows PySem.Calls PySem.Spec PySem.W
set_option maxRecDepth 100000
set_option autoImplicit false
set_option genSizeOf false
set_option genInjectivity false
namespace Mine

theorem notB {b : Bool} (h : (!b) = true) : b = false := by cases b <;> first | rfl | cases h
/-- all that stands fast -/
structure Ctx where
  prog : Program
  w : World
  HP : Heap → Prop
  mg : Str → Option Value
  mb : Str → Option Value
  cx : Cx
  n : Nat
  Γ : Nat → List PV → Option PV
  C : Calls0 prog w HP mg mb cx.fn cx.gl n Γ
/-- where an expression stands -/
structure Pt where
  sc : Sc
  Δ : De
  ρ : PE
  A : Around
  O : List Addr
  env : Env
  s : Shared
noncomputable abbrev Pt.to (p : Pt) (s : Shared) : Pt := ⟨p.sc, p.Δ, p.ρ, p.A, p.O, p.env, s⟩
structure Fr (K : Ctx) (p : Pt) : Prop where
  a : AOk K.n p.A
  h : K.HP p.s.heap
  x : EnvOk p.sc p.Δ p.O p.env p.ρ p.s.heap
theorem AOk.units' {n : Nat} {A : Around} (h : AOk n A) : A.units + 64 < cLine := Nat.lt_of_le_of_lt (Nat.add_le_add_right (Nat.le_add_right _ _) _) h.units
theorem AOk.zero {n : Nat} {A : Around} (h : AOk n A) : AOk 0 A := ⟨h.handled, Nat.lt_of_le_of_lt (Nat.le_add_right _ _) h.depth, h.units'⟩

noncomputable def EvOk (K : Ctx) (e : E) : Prop := ∀ (p : Pt) (t : Expr) (pv : PV), Fr K p → chk K.cx e p.sc p.Δ t = true → ev K.Γ e p.ρ = some pv → Ok K.prog K.w p.A p.O p.s (eval t p.env) pv
noncomputable def TrOk (K : Ctx) (e : E) : Prop := ∀ (p : Pt) (t : Expr) (b : Bool), Fr K p → (tst e t && chk K.cx e p.sc p.Δ t) = true → trP (ev K.Γ e p.ρ) = some b → OkB K.prog K.w p.A p.s (isTrue t p.env (eval t p.env)) b
noncomputable def LsOk (K : Ctx) (es : EL) : Prop := ∀ (p : Pt) (vs : List Expr) (ds : List PV), Fr K p → chkL K.cx es p.sc p.Δ vs = true → evL K.Γ es p.ρ = some ds →
  ∀ (pos : Pos) (Q : List Value → Shared → Prop) (E : Value → Shared → Prop), (∀ us s₁, Kp p.s s₁ → RepL p.O s₁.heap us ds → Q us s₁) → wpAny (model K.prog K.w) p.A (spliced (backTo pos (starEach vs p.env))) Q E p.s
noncomputable def BoOk (K : Ctx) (es : EL) : Prop := ∀ (p : Pt) (op : BoolOp) (vs : List Expr) (pv : PV), Fr K p → chkL K.cx es p.sc p.Δ vs = true → evB K.Γ op es p.ρ = some pv → ∀ pos, Ok K.prog K.w p.A p.O p.s (boolOp pos op (evalEach vs p.env)) pv
noncomputable def BtOk (K : Ctx) (es : EL) : Prop := ∀ (p : Pt) (op : BoolOp) (vs : List Expr) (b : Bool), Fr K p → chkL K.cx es p.sc p.Δ vs = true → trP (evB K.Γ op es p.ρ) = some b → OkB K.prog K.w p.A p.s (allTrue op vs p.env) b
noncomputable def SrOk (K : Ctx) (src : Src) : Prop := ∀ (p : Pt) (it : Expr) (tg : Tg) (target : Expr) (items : List PV), chkS K.cx src p.sc p.Δ (isTwo tg) it = true → tgIs tg target = true → evS K.Γ src p.ρ = some items →
  items.length ≤ sizeLine ∧ (∀ (env : Env) v, foldedSetIterable it env v = pure v) ∧ (Fr K p → FeedOk K.prog K.w p.A target p.O p.s tg items it p.env)
section
variable {K : Ctx} {p : Pt}
theorem Fr.kp (f : Fr K p) {s' : Shared} (k : Kp p.s s') : Fr K (p.to s') := ⟨f.a, K.C.wd.mono _ _ k.keep f.h, f.x.kp k⟩
theorem isG_1 {sc : Sc} {x : Str} (h : isG sc x = true) : sc.lookup x = some .globalImplicit ∧ dbg x = false := ⟨beq_iff_eq.mp (and1 h), notB (and2 h)⟩
theorem Fr.glob (f : Fr K p) {x : Str} {pos : Pos} {v : Value} {Q E : Value → Shared → Prop} (h : isG p.sc x = true) (hv : K.mg x = some v) (hQ : Q v p.s) : wpAny (model K.prog K.w) p.A (eval (.Name x pos) p.env) Q E p.s :=
  glob_ok K.C.wd f.h f.x.kind f.x.globals (f.x.gl _ (isG_1 h).1) (isG_1 h).2 hv hQ
theorem Fr.bi (f : Fr K p) {x : Str} {pos : Pos} {v : Value} {Q E : Value → Shared → Prop} (h : isG p.sc x = true) (hv : K.mg x = none ∧ K.mb x = some v) (hQ : Q v p.s) : wpAny (model K.prog K.w) p.A (eval (.Name x pos) p.env) Q E p.s :=
  bi_name_ok K.C.wd f.h f.x.kind f.x.globals f.x.builtins (f.x.gl _ (isG_1 h).1) (isG_1 h).2 hv.1 hv.2 hQ
theorem Ok.then {A : Around} {O : List Addr} {s s' : Shared} {t : Sem Value} {pv : PV} {Q E : Value → Shared → Prop} (h : Ok K.prog K.w A O s' t pv) (k : Kp s s') (hQ : ∀ v s₁, Kp s s₁ → Rep O s₁.heap v pv → Q v s₁) : wpAny (model K.prog K.w) A t Q E s' := h Q E fun v s₁ k1 r => hQ v s₁ (k.trans k1) r
theorem OkB.then {A : Around} {s s' : Shared} {t : Sem Bool} {b : Bool} {Q : Bool → Shared → Prop} {E : Value → Shared → Prop} (h : OkB K.prog K.w A s' t b) (k : Kp s s') (hQ : ∀ s₁, Kp s s₁ → Q b s₁) : wpAny (model K.prog K.w) A t Q E s' := h Q E fun s₁ k1 => hQ s₁ (k.trans k1)
theorem trP_some {o : Option PV} {b : Bool} (h : trP o = some b) : ∃ v, o = some v ∧ truthP v = some b := bindE h fun v hv h => ⟨v, hv, h⟩

theorem pair {e : E} (he : EvOk K e) (h : isT e = false) : EvOk K e ∧ TrOk K e :=
  ⟨he, fun p t _ f hc ht => bindE ht fun v h1 h2 Q E hQ => wpAny_isTrue_value (he p t v f (and2 hc) h1 _ _ fun _ _ k r => (truth_ok r h2).then k hQ) (tplain (((Bool.or_eq_true_iff.mp (and1 hc)).resolve_left fun q => nomatch h.symm.trans q)) p.env _)⟩
theorem lit_ev {c : PV} : EvOk K (.lit c) := fun p t pv f hc he => onConstantE hc fun v k pos hc => by
  cases Option.some.inj he
  cases c with
  | none => cases of_decide_eq_true hc; exact fun Q E hQ => wpAny_Constant_none (hQ _ _ (Kp.refl p.s) .none)
  | bool => cases of_decide_eq_true hc; exact fun Q E hQ => wpAny_Constant_bool (hQ _ _ (Kp.refl p.s) (.bool _))
  | int => cases of_decide_eq_true hc; exact fun Q E hQ => wpAny_Constant_int (hQ _ _ (Kp.toks p.s _) (.int _ _))
  | str => cases of_decide_eq_true hc; exact fun Q E hQ => wpAny_Constant_str (hQ _ _ (Kp.toks p.s _) (.str _ _))
  | byt b => cases of_decide_eq_true hc; exact fun Q E hQ => Constant_bytes (hQ _ _ (Kp.toks p.s _) (.byt _ _))
  | _ => exact nomatch hc
theorem var_ev {i : Nat} : EvOk K (.var i) := fun p t pv f hc he => onNameE hc fun y q hc => by
  obtain ⟨v, l, r⟩ := f.x.vars y i pv (of_decide_eq_true (and1 hc)) he
  exact fun Q E hQ => name_look f.x.kind (notB (and2 hc)) l (hQ v p.s (Kp.refl _) r)
theorem glob_ev {y : Str} {v : Int} : EvOk K (.glob y v) := fun p t pv f hc he => onNameE hc fun x q hc => beqE (P := fun x => Ok K.prog K.w p.A p.O p.s (eval (.Name x q) p.env) pv) hc fun hc => by
  obtain ⟨t, ht⟩ := K.C.gl y v (List.contains_iff_mem.mp (and2 hc))
  exact fun Q E hQ => f.glob (and1 hc) ht (hQ _ _ (Kp.refl _) (Option.some.inj he ▸ .int _ _))
theorem bin_ev {op : Operator} {a b : E} (ha : EvOk K a) (hb : EvOk K b) : EvOk K (.bin op a b) := fun p t pv f hc he => onBinOpE hc fun l o r pos hc => beqE (P := fun o => Ok K.prog K.w p.A p.O p.s (eval (.BinOp l o r pos) p.env) pv) hc fun hc => bindE he fun x hx he => bindE he fun y hy he Q E hQ =>
  wpAny_BinOp (ha p l x f (and1 hc) hx _ _ fun v s₁ k1 r1 => hb (p.to s₁) r y (f.kp k1) (and2 hc) hy _ _ fun u s₂ k2 r2 => (bin_ok (r1.keeps k2) r2 (f.kp (k1.trans k2)).x.alive he).then (k1.trans k2) hQ)
theorem neg_ev {a : E} (ha : EvOk K a) : EvOk K (.neg a) := fun p t pv f hc he => onUnaryOpE hc fun o x pos hc => beqE (P := fun o => Ok K.prog K.w p.A p.O p.s (eval (.UnaryOp o x pos) p.env) pv) hc fun hc => bindE he fun v hv he => bindE he fun i hi he Q E hQ =>
  wpAny_UnaryOp (ha p x v f hc hv _ _ fun u s₁ k1 r1 => r1.intE (P := fun u => wpAny _ _ (unaryOp .USub u) _ _ _) hi fun t => PyProof.Rows.neg_int (hQ _ _ (k1.trans (Kp.toks _ _)) (Option.some.inj he ▸ .int _ _)))
theorem not_ev {a : E} (ha : EvOk K a) : EvOk K (.notE a) := fun p t pv f hc he => onUnaryOpE hc fun o x pos hc => beqE (P := fun o => Ok K.prog K.w p.A p.O p.s (eval (.UnaryOp o x pos) p.env) pv) hc fun hc => bindE he fun b hb he => bindE hb fun v hv hb Q E hQ =>
  wpAny_UnaryOp (ha p x v f (and2 hc) hv _ _ fun u s₁ k1 r1 => not_value (truth_ok r1 hb _ _ fun s₂ k2 => hQ _ _ (k1.trans k2) (Option.some.inj he ▸ .bool _)))
theorem not_tr {a : E} (ha : TrOk K a) : TrOk K (.notE a) := fun p t b f hc ht => onUnaryOpE (and2 hc) fun o x pos hc => beqE (P := fun o => OkB K.prog K.w p.A p.s (isTrue (.UnaryOp o x pos) p.env (eval (.UnaryOp o x pos) p.env)) b) hc fun hc => bindE ht fun v hv ht => bindE hv fun d hd hv Q E hQ => by
  cases Option.some.inj hv
  cases Option.some.inj ht
  exact wpAny_isTrue_Not (ha p x d f hc hd _ _ hQ)
/-- a comparison's parts -/
theorem cmpE {op : CmpOp} {a b : E} {sc : Sc} {Δ : De} {t : Expr} {P : Expr → Prop} (hc : chk K.cx (.cmp op a b) sc Δ t = true) (k : ∀ l r pos, chk K.cx a sc Δ l = true → chk K.cx b sc Δ r = true → notSet r = true → P (.Compare l [op] [r] pos)) : P t :=
  onCompareE hc fun l os rs pos hc => l1E (P := fun os => P (.Compare l os rs pos)) hc fun o hc => l1E (P := fun rs => P (.Compare l [o] rs pos)) hc fun r hc => beqE (P := fun o => P (.Compare l [o] [r] pos)) hc fun hc => k l r pos (and1 hc) (and1 (and2 hc)) (and2 (and2 hc))
theorem cmp_ev {op : CmpOp} {a b : E} (ha : EvOk K a) (hb : EvOk K b) : EvOk K (.cmp op a b) := fun p t pv f hc he => cmpE (P := fun t => Ok K.prog K.w p.A p.O p.s (eval t p.env) pv) hc fun l r pos h1 h2 h3 => bindE he fun x hx he => bindE he fun y hy he => bindE he fun z hz he => someE he fun Q E hQ =>
  wpAny_Compare1 (ha p l x f h1 hx _ _ fun v s₁ k1 r1 => hb (p.to s₁) r y (f.kp k1) h2 hy _ _ fun u s₂ k2 r2 => (cmp_ok f.a.units' (r1.keeps k2) r2 hz).then (k1.trans k2) hQ) (notSet_marks h3)
theorem cmp_tr {op : CmpOp} {a b : E} (ha : EvOk K a) (hb : EvOk K b) : TrOk K (.cmp op a b) := fun p t d f hc ht => cmpE (P := fun t => OkB K.prog K.w p.A p.s (isTrue t p.env (eval t p.env)) d) (and2 hc) fun l r pos h1 h2 h3 => bindE ht fun v he ht => bindE he fun x hx he => bindE he fun y hy he => bindE he fun z hz he Q E hQ =>
  wpAny_isTrue_Compare1 (ha p l x f h1 hx _ _ fun v s₁ k1 r1 => hb (p.to s₁) r y (f.kp k1) h2 hy _ _ fun u s₂ k2 r2 => cmp_ok (O := p.O) f.a.units' (r1.keeps k2) r2 hz _ _ fun z' s₃ k3 r3 => (truth_ok (Option.some.inj he ▸ r3) ht).then (k1.trans (k2.trans k3)) hQ) (notSet_marks h3)
theorem ite_ev {c a b : E} (hcc : TrOk K c) (ha : EvOk K a) (hb : EvOk K b) : EvOk K (.ite c a b) := fun p t pv f hc he => onIfExpE hc fun x y z pos hc => bindE he fun d hd he Q E hQ =>
  wpAny_IfExp (hcc p x d f (and1 hc) hd _ _ fun s₁ k => by
    cases d with
    | true => exact (ha (p.to s₁) y pv (f.kp k) (and2 (and1 (and2 hc))) he).then k hQ
    | false => exact (hb (p.to s₁) z pv (f.kp k) (and2 (and2 (and2 hc))) he).then k hQ)
theorem ite_tr {c a b : E} (hcc : TrOk K c) (ha : TrOk K a) (hb : TrOk K b) : TrOk K (.ite c a b) := fun p t q f hc ht => onIfExpE (and2 hc) fun x y z pos hc => bindE ht fun v he ht => bindE he fun d hd he Q E hQ =>
  isTrue_IfExp (hcc p x d f (and1 hc) hd _ _ fun s₁ k => by
    cases d with
    | true => exact (ha (p.to s₁) y q (f.kp k) (and1 (and2 hc)) ((congrArg trP he).trans ht)).then k hQ
    | false => exact (hb (p.to s₁) z q (f.kp k) (and2 (and2 hc)) ((congrArg trP he).trans ht)).then k hQ)
theorem nil_ls : LsOk K .nil := fun p vs ds f hc he pos Q E hQ => by
  cases vs with
  | nil => exact wpAny_items_nil (hQ _ _ (Kp.refl p.s) (Option.some.inj he ▸ .nil))
  | cons v vs => exact nomatch hc
theorem cons_ls {e : E} {r : EL} (he' : EvOk K e) (hr : LsOk K r) : LsOk K (.cons e r) := fun p vs ds f hc he pos Q E hQ => by
  cases vs with
  | nil => exact nomatch hc
  | cons v vs => exact bindE he fun d hd he => bindE he fun ds' hds he => wpAny_items_cons (he' p v d f (and2 (and1 (and2 hc))) hd _ _ fun u s₁ k1 r1 => hr (p.to s₁) vs ds' (f.kp k1) (and2 (and2 hc)) hds pos _ _ fun us s₂ k2 r2 => hQ _ _ (k1.trans k2) (Option.some.inj he ▸ .cons (r1.keeps k2) r2)) (star_cons (and1 hc))
theorem chkL_star : ∀ {es : EL} {sc : Sc} {Δ : De} {vs : List Expr}, chkL K.cx es sc Δ vs = true → vs.all notStar = true
  | .nil, _, _, [], _ => rfl
  | .nil, _, _, _ :: _, h => nomatch h
  | .cons _ _, _, _, [], h => nomatch h
  | .cons _ _, _, _, _ :: _, h => Bool.and_eq_true_iff.mpr ⟨and1 h, chkL_star (and2 (and2 h))⟩
theorem plain_args {env : Env} {pos : Pos} : ∀ {vs : List Expr}, vs.all notStar = true → (backTo pos (starEach vs env)).any (·.1) = false
  | [], _ => rfl
  | v :: vs, h => by
    rw [star_cons (and1 h)]
    exact plain_args (vs := vs) (and2 h)
theorem args_ok {f : Value} {env : Env} {pos : Pos} {vs : List Expr} {A : Around} {s : Shared} {Q : Args → Shared → Prop} {E : Value → Shared → Prop} (hne : vs.isEmpty = false) (hs : vs.all notStar = true)
    (h : wpAny (model K.prog K.w) A (spliced (backTo pos (starEach vs env))) (fun us s' => Q ⟨us, []⟩ s') E s) : wpAny (model K.prog K.w) A (evalArgs f true (backTo pos (starEach vs env)) []) Q E s := by
  cases vs with
  | nil => cases hne
  | cons v vs =>
    rw [star_cons (and1 hs)] at h ⊢
    exact evalArgs_plain h
theorem eval_Call_Name {x : Str} {q pos : Pos} {args : List Expr} {env : Env} {A : Around} {s : Shared} {Q E : Value → Shared → Prop} (h : wpAny (model K.prog K.w) A (eval (.Name x q) env) (fun f s₁ => wpAny (model K.prog K.w) A (callWith pos f [] (backTo pos (starEach args env)) []) Q E s₁) E s) :
    wpAny (model K.prog K.w) A (eval (.Call (.Name x q) args [] pos) env) Q E s := wpAny_bind h
/-- the arguments of a call of a name, at least one -/
theorem LsOk.args {es : EL} (hes : LsOk K es) {vs : List Expr} {ds : List PV} {fv : Value} {pos : Pos} {Q : Args → Shared → Prop} {E : Value → Shared → Prop} (f : Fr K p) (hc : (chkL K.cx es p.sc p.Δ vs && !vs.isEmpty) = true) (he : evL K.Γ es p.ρ = some ds)
    (hQ : ∀ us s₁, Kp p.s s₁ → RepL p.O s₁.heap us ds → Q ⟨us, []⟩ s₁) : wpAny (model K.prog K.w) p.A (evalArgs fv true (backTo pos (starEach vs p.env)) []) Q E p.s :=
  args_ok (notB (and2 hc)) (chkL_star (and1 hc)) (hes p vs ds f (and1 hc) he pos _ _ hQ)
theorem call_ev {g : Nat} {es : EL} (hes : LsOk K es) : EvOk K (.call g es) := fun p t pv f hc he => callNE (and2 hc) fun q args pos hg h2 => bindE he fun ds hds he => by
  obtain ⟨a, hm, hfd, hcall⟩ := K.C.def_ g (of_decide_eq_true (and1 hc)) ds pv he
  obtain ⟨o, fd, ho, hd⟩ := hfd _ f.h
  exact fun Q E hQ => eval_Call_Name (f.glob hg hm (callWith_function (o := o) (fd := fd) (hes.args f h2 hds fun us s₁ k1 r1 => ⟨⟨k1.get ho, hd⟩, (hcall p.A p.O s₁ us f.a (f.kp k1).h (f.kp k1).x.alive r1).then k1 hQ⟩)))
theorem biVal_is (b : BI) : (∃ x, biVal b = .builtin x) ∨ ∃ x, biVal b = .type x := by cases b <;> first | exact .inl ⟨_, rfl⟩ | exact .inr ⟨_, rfl⟩
theorem bi_ev {b : BI} {es : EL} (hb : b ≠ .listRange) (hes : LsOk K es) : EvOk K (.bi b es) := fun p t pv f hc he => callNE hc fun q args pos hg h2 => bindE he fun ds hds he => by
  have h2 : (chkL K.cx es p.sc p.Δ args && !args.isEmpty) = true := by
    cases b <;> first | exact h2 | exact absurd rfl hb
  refine fun Q E hQ => eval_Call_Name (f.bi hg (K.C.bi b) ?_)
  have fin : ∀ us s₁, Kp p.s s₁ → RepL p.O s₁.heap us ds → wpAny (model K.prog K.w) p.A (call (biVal b) us) Q E s₁ := fun us s₁ k1 r1 => (bi_ok f.a.zero (f.kp k1).x.alive r1 hb he).then k1 hQ
  have pl := plain_args (env := p.env) (pos := pos) (chkL_star (and1 h2))
  rcases biVal_is b with ⟨x, e⟩ | ⟨x, e⟩
  · rw [e] at fin ⊢; exact callWith_builtin pl (hes.args f h2 hds fin)
  · rw [e] at fin ⊢; exact PySem.callWith_type pl (hes.args f h2 hds fin)
end
end Mine
end

-- Q13
section
open PySem PyProof.Rows PySem.Calls PySem.Spec PySem.W
set_option maxRecDepth 100000
set_option autoImplicit false
namespace Mine
section
variable {K : Ctx} {p : Pt}
noncomputable def LsAll (K : Ctx) : EL → Prop
  | .nil => True
  | .cons e r => (EvOk K e ∧ TrOk K e) ∧ LsAll K r
theorem LsAll.ls : ∀ {es : EL}, LsAll K es → LsOk K es
  | .nil, _ => nil_ls
  | .cons _ _, h => cons_ls h.1.1 (LsAll.ls h.2)
/-- one tree, or more than one -/
theorem boE {e : E} {r : EL} {vs : List Expr} {sc : Sc} {Δ : De} {P : List Expr → Prop} (hc : chkL K.cx (.cons e r) sc Δ vs = true) (k1 : ∀ v, r = .nil → (tst e v && chk K.cx e sc Δ v) = true → P [v]) (k2 : ∀ v v' vs e' r', r = .cons e' r' → (tst e v && chk K.cx e sc Δ v) = true → chkL K.cx r sc Δ (v' :: vs) = true → P (v :: v' :: vs)) : P vs := by
  cases vs with
  | nil => exact nomatch hc
  | cons v vs =>
    cases r with
    | nil => cases vs with
      | nil => exact k1 v rfl (and1 (and2 hc))
      | cons => exact nomatch and2 (and2 hc)
    | cons e' r' => cases vs with
      | nil => exact nomatch and2 (and2 hc)
      | cons v' vs => exact k2 v v' vs e' r' rfl (and1 (and2 hc)) (and2 (and2 hc))
theorem LsAll.bo : ∀ (es : EL), LsAll K es → BoOk K es
  | .nil, _ => fun _ _ _ _ _ _ he => none_some he
  | .cons e r, h => fun p op vs pv f hc he pos => boE (P := fun vs => Ok K.prog K.w p.A p.O p.s (boolOp pos op (evalEach vs p.env)) pv) hc (fun v hr h1 => h.1.1 p v pv f (and2 h1) (by subst hr; exact he)) fun v v' vs e' r' hr h1 h2 => by
    have ih := LsAll.bo r h.2
    subst hr
    refine bindE he fun d hd he => bindE he fun t ht he => ?_
    intro Q E hQ
    show wpAny _ _ (do
      let a ← eval v p.env
      standAt pos
      let t ← holding [a] (truthy a)
      match op, t with
      | .And, false | .Or, true => pure a
      | _, _ => boolOp pos op (evalEach (v' :: vs) p.env)) _ _ _
    refine wpAny_bind (h.1.1 p v d f (and2 h1) hd _ _ fun u s₁ k1 r1 => wpAny_bind (wpAny_standAt (wpAny_bind (wpAny_holding (truth_ok r1 ht _ _ fun s₂ k2 => ?_)))))
    have k12 := k1.trans k2
    have go : evB K.Γ op (.cons e' r') p.ρ = some pv → wpAny (model K.prog K.w) p.A (boolOp pos op (evalEach (v' :: vs) p.env)) Q E s₂ := fun he => (ih (p.to s₂) op (v' :: vs) pv (f.kp k12) h2 he pos).then k12 hQ
    have here : some d = some pv → wpAny (model K.prog K.w) p.A (pure u) Q E s₂ := fun he => wpAny_pure (hQ _ _ k12 (Option.some.inj he ▸ r1.keeps k2))
    cases op <;> cases t
    · exact here he
    · exact go he
    · exact go he
    · exact here he
theorem LsAll.bt : ∀ (es : EL), LsAll K es → BtOk K es
  | .nil, _ => fun _ _ _ _ _ _ he => none_some he
  | .cons e r, h => fun p op vs b f hc he => boE (P := fun vs => OkB K.prog K.w p.A p.s (allTrue op vs p.env) b) hc (fun v hr h1 Q E hQ => by
    subst hr
    have ev := h.1.2 p v b f h1 he
    cases op with
    | And => exact wpAny_allTrue_And_cons (ev _ _ fun s₁ k => by
        cases b with
        | true => exact wpAny_allTrue_And_nil (hQ _ k)
        | false => exact hQ _ k)
    | Or => exact wpAny_allTrue_Or_cons (ev _ _ fun s₁ k => by
        cases b with
        | false => exact wpAny_allTrue_Or_nil (hQ _ k)
        | true => exact hQ _ k)) fun v v' vs e' r' hr h1 h2 => by
    have ih := LsAll.bt r h.2
    subst hr
    refine bindE he fun pv he htr => bindE he fun d hd he => bindE he fun t ht he => ?_
    intro Q E hQ
    have ev := h.1.2 p v t f h1 ((congrArg trP hd).trans ht)
    have here : some d = some pv → b = t := fun e => Option.some.inj (htr.symm.trans ((congrArg truthP (Option.some.inj e)).symm.trans ht))
    have go : ∀ s₁, Kp p.s s₁ → evB K.Γ op (.cons e' r') p.ρ = some pv → wpAny (model K.prog K.w) p.A (allTrue op (v' :: vs) p.env) Q E s₁ := fun s₁ k e => (ih (p.to s₁) op (v' :: vs) b (f.kp k) h2 ((congrArg trP e).trans htr)).then k hQ
    cases op with
    | And => exact wpAny_allTrue_And_cons (ev _ _ fun s₁ k => by
        cases t with
        | false => cases here he; exact hQ _ k
        | true => exact go s₁ k he)
    | Or => exact wpAny_allTrue_Or_cons (ev _ _ fun s₁ k => by
        cases t with
        | true => cases here he; exact hQ _ k
        | false => exact go s₁ k he)
theorem boolop_ev {op : BoolOp} {es : EL} (h : BoOk K es) : EvOk K (.boolop op es) := fun p t pv f hc he => onBoolOpE hc fun o vs pos hc => beqE (P := fun o => Ok K.prog K.w p.A p.O p.s (eval (.BoolOp o vs pos) p.env) pv) hc fun hc => by
  rw [arm_eval_BoolOp]
  exact h p op vs pv f hc he _
theorem boolop_tr {op : BoolOp} {es : EL} (h : BtOk K es) : TrOk K (.boolop op es) := fun p t b f hc he => onBoolOpE (and2 hc) fun o vs pos hc => beqE (P := fun o => OkB K.prog K.w p.A p.s (isTrue (.BoolOp o vs pos) p.env (eval (.BoolOp o vs pos) p.env)) b) hc fun hc Q E hQ =>
  wpAny_isTrue_BoolOp (h p op vs b f hc he _ _ hQ)

theorem evL_len : ∀ (es : EL) {sc : Sc} {Δ : De} {vs : List Expr} {ρ : PE} {ds : List PV}, chkL K.cx es sc Δ vs = true → evL K.Γ es ρ = some ds → ds.length = vs.length
  | .nil, _, _, [], _, _, _, h => Option.some.inj h ▸ rfl
  | .nil, _, _, _ :: _, _, _, h, _ => nomatch h
  | .cons _ _, _, _, [], _, _, h, _ => nomatch h
  | .cons _ r, _, _, _ :: _, _, _, h, h' => bindE h' fun _ _ h' => bindE h' fun _ hd h' => Option.some.inj h' ▸ congrArg (· + 1) (evL_len r (and2 (and2 h)) hd)
theorem tup_ev {es : EL} (h : LsOk K es) : EvOk K (.tup es) := fun p t pv f hc he => onTupleE hc fun elts k pos hc => bindE he fun ds hds he => someE he fun Q E hQ =>
  wpAny_Tuple (h p elts ds f (and2 hc) hds _ _ _ fun us s₁ k1 r1 => ⟨(r1.length.trans (evL_len es (and2 hc) hds)) ▸ room_line (and1 hc), hQ _ _ (k1.trans (Kp.push _ _)) (Rep.newTup r1 (f.kp k1).x.alive)⟩)
theorem list_ev {es : EL} (h : LsOk K es) : EvOk K (.list es) := fun p t pv f hc he => onListE hc fun elts pos hc => bindE he fun ds hds he => someE he fun Q E hQ =>
  wpAny_List (h p elts ds f (and2 hc) hds _ _ _ fun us s₁ k1 r1 => ⟨(r1.length.trans (evL_len es (and2 hc) hds)) ▸ room_line (and1 hc), hQ _ _ (k1.trans (Kp.push _ _)) (Rep.newList r1 (f.kp k1).x.alive)⟩)
theorem idx_ev {a i : E} (ha : EvOk K a) (hi : EvOk K i) : EvOk K (.idx a i) := fun p t pv f hc he => onSubscriptE hc fun v sl pos hc => bindE he fun x hx he => bindE he fun y hy he => bindE he fun k hk he Q E hQ =>
  Subscript_ (ha p v x f (and1 (and2 hc)) hx _ _ fun o s₁ k1 r1 => hi (p.to s₁) sl y (f.kp k1) (and2 (and2 hc)) hy _ _ fun u s₂ k2 r2 => r2.intE (P := fun u => wpAny _ _ (subscriptTail v sl o u) _ _ _) hk fun t => (idx_ok (subscripted_plain (and1 hc)) (r1.keeps k2) he).then (k1.trans k2) hQ)
theorem oidx_ev {j : Nat} {i : E} (hi : EvOk K i) : EvOk K (.oidx j i) := fun p t pv f hc he => onSubscriptE hc fun v sl pos hc => onNameE (P := fun v => Ok K.prog K.w p.A p.O p.s (eval (.Subscript v sl pos) p.env) pv) hc fun y q hc => bindE he fun o ho he => ifE he fun hj he => bindE he fun y' hy he => bindE he fun k hk he => ifE he fun hk0 he => bindE he fun z hz he => by
  obtain ⟨a, vs, l, hO, hl, hi'⟩ := f.x.own j o.2 (ho.trans (hj ▸ rfl)) y (of_decide_eq_true (and1 hc))
  refine fun Q E hQ => Subscript_ (name_look f.x.kind (notB (and1 (and2 hc))) l (hi p sl y' f (and2 (and2 (and2 hc))) hy _ _ fun u s₂ k2 r2 => r2.intE (P := fun u => wpAny _ _ (subscriptTail (.Name y q) sl (.ref a) u) _ _ _) hk fun t => ?_))
  have e : idxP (.lst (o.2.map .int)) k = some (.int z) := by
    show (if 0 ≤ k ∧ k < 4096 then _ else none) = _
    rw [if_pos hk0, List.getElem?_map, hz]; rfl
  exact idx_ok (O := []) (subscripted_plain (and1 (and2 (and2 hc)))) (.lst List.not_mem_nil (hl.keeps k2.keep).isList (RepL.ofInts hi')) e _ _ fun z' s₃ k3 r3 => hQ z' s₃ (k2.trans k3) (Option.some.inj he ▸ r3.intE rfl (.int _))
/-- a slice's tail -/
theorem slice_end {value : Expr} {lo hi : Option Expr} {q : Pos} {o vl vu : Value} {x z : PV} {l u : Option Int} {s₁ s₂ : Shared} {Q E : Value → Shared → Prop} (f : Fr K p) (k1 : Kp p.s s₁) (k2 : Kp s₁ s₂) (r : Rep p.O s₁.heap o x) (hl : IsPart vl l) (hu : IsPart vu u) (h : slP x l u = some z) (hQ : ∀ v s', Kp p.s s' → Rep p.O s'.heap v z → Q v s') :
    wpAny (model K.prog K.w) p.A (subscriptTail value (.Slice lo hi none q) o (.ref s₂.heap.objs.size)) Q E { s₂ with heap := s₂.heap.push { cls := .type "slice", data := .fields #[vl, vu, .none] } } :=
  have k3 := (k1.trans k2).trans (Kp.push s₂ { cls := .type "slice", data := .fields #[vl, vu, .none] })
  (sl_list (f.kp k3).x.alive hl hu ⟨_, Heap.get?_push_size _ rfl, rfl, rfl⟩ ((r.keeps k2).keeps (Kp.push _ _)) h).then k3 hQ
theorem slLo_ev {a lo : E} (ha : EvOk K a) (hl : EvOk K lo) : EvOk K (.slLo a lo) := fun p t pv f hc he => onSubscriptE hc fun v sl pos hc => onSliceE (P := fun sl => Ok K.prog K.w p.A p.O p.s (eval (.Subscript v sl pos) p.env) pv) hc fun l h st q hc => o0E (P := fun st => Ok K.prog K.w p.A p.O p.s (eval (.Subscript v (.Slice l h st q) pos) p.env) pv) hc fun hc =>
  o0E (P := fun h => Ok K.prog K.w p.A p.O p.s (eval (.Subscript v (.Slice l h none q) pos) p.env) pv) hc fun hc => o1E (P := fun l => Ok K.prog K.w p.A p.O p.s (eval (.Subscript v (.Slice l none none q) pos) p.env) pv) hc fun l hc => bindE he fun x hx he => bindE he fun y hy he => bindE he fun k hk he Q E hQ =>
  Subscript_ (ha p v x f (and1 hc) hx _ _ fun o s₁ k1 r1 => wpAny_Slice (hl (p.to s₁) l y (f.kp k1) (and2 hc) hy _ _ fun u s₂ k2 r2 => wpAny_pure (wpAny_pure (slice_end f k1 k2 r1 (r2.intE hk (.int k)) .none he hQ))))
theorem part_of {O : List Addr} {h : Heap} {u : Value} {y : PV} {k : Option Int} (r : Rep O h u y) (e : bndP y = some k) : IsPart u k := by
  cases r with
  | none => exact Option.some.inj e ▸ .none
  | int => exact Option.some.inj e ▸ .int _ _
  | _ => exact none_some e
theorem slHi_ev {a hi : E} (ha : EvOk K a) (hl : EvOk K hi) : EvOk K (.slHi a hi) := fun p t pv f hc he => onSubscriptE hc fun v sl pos hc => onSliceE (P := fun sl => Ok K.prog K.w p.A p.O p.s (eval (.Subscript v sl pos) p.env) pv) hc fun l h st q hc => o0E (P := fun st => Ok K.prog K.w p.A p.O p.s (eval (.Subscript v (.Slice l h st q) pos) p.env) pv) hc fun hc =>
  o0E (P := fun l => Ok K.prog K.w p.A p.O p.s (eval (.Subscript v (.Slice l h none q) pos) p.env) pv) hc fun hc => o1E (P := fun h => Ok K.prog K.w p.A p.O p.s (eval (.Subscript v (.Slice none h none q) pos) p.env) pv) hc fun h hc => bindE he fun x hx he => bindE he fun y hy he => bindE he fun k hk he Q E hQ =>
  Subscript_ (ha p v x f (and1 hc) hx _ _ fun o s₁ k1 r1 => wpAny_Slice (wpAny_pure (hl (p.to s₁) h y (f.kp k1) (and2 hc) hy _ _ fun u s₂ k2 r2 => wpAny_pure (slice_end f k1 k2 r1 .none (part_of r2 hk) he hQ))))
theorem slLH_ev {a lo hi : E} (ha : EvOk K a) (hl : EvOk K lo) (hh : EvOk K hi) : EvOk K (.slLH a lo hi) := fun p t pv f hc he => onSubscriptE hc fun v sl pos hc => onSliceE (P := fun sl => Ok K.prog K.w p.A p.O p.s (eval (.Subscript v sl pos) p.env) pv) hc fun l h st q hc => o0E (P := fun st => Ok K.prog K.w p.A p.O p.s (eval (.Subscript v (.Slice l h st q) pos) p.env) pv) hc fun hc =>
  o1E (P := fun l => Ok K.prog K.w p.A p.O p.s (eval (.Subscript v (.Slice l h none q) pos) p.env) pv) hc fun l hc => o1E (P := fun h => Ok K.prog K.w p.A p.O p.s (eval (.Subscript v (.Slice (some l) h none q) pos) p.env) pv) hc fun h hc => bindE he fun x hx he => bindE he fun y hy he => bindE he fun k hk he => bindE he fun y' hy' he => bindE he fun m hm he Q E hQ =>
  Subscript_ (ha p v x f (and1 hc) hx _ _ fun o s₁ k1 r1 => wpAny_Slice (hl (p.to s₁) l y (f.kp k1) (and1 (and2 hc)) hy _ _ fun u s₂ k2 r2 => hh (p.to s₂) h y' (f.kp (k1.trans k2)) (and2 (and2 hc)) hy' _ _ fun u' s₃ k3 r3 => wpAny_pure (slice_end f k1 (k2.trans k3) r1 (r2.intE hk (.int k)) (r3.intE hm (.int m)) he hQ)))
end
end Mine
end

-- Q14
section
open PySem PyProof.Rows PySem.Calls PySem.Spec PySem.W
set_option maxRecDepth 100000
set_option autoImplicit false
namespace Mine
section
variable {prog : Program} {w : World} {A : Around} {O : List Addr} {s : Shared}
theorem mul_new {l : Addr} {items : Array Value} {k : Nat} {x : Int} {u : Tok} {Q E : Value → Shared → Prop}
    (hl : s.heap.get? l = some { cls := .type "list", dict := none, data := .seq items k, slots := #[] })
    (h0 : 0 ≤ x) (hx : x < 4096) (hi : items.size = 1)
    (h : Q (.ref s.heap.objs.size) { s with heap := s.heap.push { cls := .type "list", data := .seq (List.foldl (fun x1 x2 => x1 ++ x2) #[] (List.replicate (if items.isEmpty = true then 0 else x.toNat) items)) } }) :
    wpAny (model prog w) A (binaryOp .Mult (.ref l) (.int x u)) Q E s := by
  have hn : x.toNat < 4096 := (Int.toNat_lt h0).mpr hx
  have h3 : Builtin.List.listTooLong (items.size * x.toNat) = false := by
    rw [hi, Nat.one_mul]
    exact decide_eq_false (Nat.not_lt.mpr (Nat.le_trans (Nat.le_of_lt hn) (by decide)))
  have h1 : Builtin.List.listFitsIndex x = true := Bool.and_eq_true_iff.mpr ⟨decide_eq_true (Int.le_trans (by decide) h0), decide_eq_true (Int.lt_of_lt_of_le hx (by decide))⟩
  exact wpAny_binaryOp_repeat_ref (T := "list") (U := "int") (by decide) ⟨_, hl, rfl⟩ (fun s' => typeIs_int s' x u) noFill_list_mul F.fills_int_mul F.slot_int_rmul repeat_list F.slot_int_index.lookup
    (call_meets F.slot_int_rmul (typeIs_int s x u) F.entry_int_rmul (F.args_int_rmul_2 _ _) (int___rmul___int_list x u l items k)
      ⟨hl, rfl, ⟨_, hl, rfl⟩, call_meets F.slot_list_mul ⟨_, hl, rfl⟩ F.entry_list_mul (F.args_list_mul_2 _ _)
        (AutoListH.list___mul___list_int_3 l items k x u (by rw [h1]; decide) (by rw [hi, Nat.one_mul]; exact Nat.not_lt.mpr (Nat.le_trans (Nat.le_of_lt hn) (by decide))) (by rw [h3]; decide))
        ⟨hl, h⟩⟩)
theorem ints_replicate (c : Int) (t : Tok) : ∀ k, IntsAre (List.replicate k (.int c t)) (List.replicate k c)
  | 0 => .nil
  | k + 1 => .cons c t (ints_replicate c t k)
/-- a new list of ints, owned by nobody -/
noncomputable def NewInts (prog : Program) (w : World) (A : Around) (s : Shared) (t : Sem Value) (l : List Int) : Prop :=
  ∀ (Q E : Value → Shared → Prop), (∀ D vs s', Kp s s' → s.heap.get? D = none → PlainL s'.heap D vs.toArray → IntsAre vs l → Q (.ref D) s') → wpAny (model prog w) A t Q E s
theorem NewInts.ok {t : Sem Value} {l : List Int} (h : NewInts prog w A s t l) (hO : Alive O s.heap) : Ok prog w A O s t (.lst (l.map .int)) :=
  fun Q E hQ => h Q E fun D vs s' k hD hl hi => hQ _ s' k (.lst (hO.new hD) hl.isList (RepL.ofInts hi))
end
section
variable {K : Ctx} {p : Pt} {t : Expr} {pv : PV}
theorem repl_new {c : Int} {a : E} (ha : EvOk K a) (f : Fr K p) (hc : chk K.cx (.repl c a) p.sc p.Δ t = true) (he : ev K.Γ (.repl c a) p.ρ = some pv) : ∃ l, pv = .lst (l.map .int) ∧ NewInts K.prog K.w p.A p.s (eval t p.env) l :=
  onBinOpE (P := fun t => ∃ l, pv = .lst (l.map .int) ∧ NewInts K.prog K.w p.A p.s (eval t p.env) l) hc fun l o r pos hc => onListE (P := fun l => ∃ L, pv = .lst (L.map .int) ∧ NewInts K.prog K.w p.A p.s (eval (.BinOp l o r pos) p.env) L) hc fun es q hc => l1E (P := fun es => ∃ L, pv = .lst (L.map .int) ∧ NewInts K.prog K.w p.A p.s (eval (.BinOp (.List es q) o r pos) p.env) L) hc fun b hc =>
  onConstantE (P := fun b => ∃ L, pv = .lst (L.map .int) ∧ NewInts K.prog K.w p.A p.s (eval (.BinOp (.List [b] q) o r pos) p.env) L) hc fun v k q' hc => bindE he fun x hx he => bindE he fun m hm he => ifE he fun h0 he => by
  cases eq_of_beq (and1 hc)
  cases eq_of_beq (and1 (and2 hc))
  refine ⟨List.replicate m.toNat c, (Option.some.inj he).symm.trans (congrArg PV.lst List.map_replicate.symm), fun Q E hQ => ?_⟩
  refine wpAny_BinOp (wpAny_List (wpAny_items_cons (wpAny_Constant_int (wpAny_items_nil ⟨show 1 ≤ sizeLine by decide, ?_⟩))))
  have k1 : Kp p.s { p.s with heap := p.s.heap.push { cls := .type "list", data := .seq [Value.int c p.s.toks].toArray }, toks := p.s.toks + 1 } := Kp.pushT _ _ _
  refine ha (p.to _) r x (f.kp k1) (and2 (and2 hc)) hx _ _ fun u s₂ k2 r2 => r2.intE (P := fun u => wpAny _ _ (binaryOp .Mult _ u) _ _ _) hm fun t => ?_
  have e : List.foldl (fun x1 x2 => x1 ++ x2) #[] (List.replicate (if [Value.int c p.s.toks].toArray.isEmpty = true then 0 else m.toNat) [Value.int c p.s.toks].toArray) = (List.replicate m.toNat (Value.int c p.s.toks)).toArray := by
    rw [listMul_foldl_if]
    exact congrArg List.toArray (lm_rep_flat_one _ _)
  have k12 := k1.trans k2
  exact mul_new (k2.get (Heap.get?_push_size _ rfl)) h0.1 h0.2 rfl (hQ _ (List.replicate m.toNat (Value.int c p.s.toks)) _ (k12.trans (Kp.push _ _)) (k12.none (get_size _)) ⟨_, _, Heap.get?_push_size _ rfl, rfl, rfl, congrArg (fun z => Data.seq z) e⟩ (ints_replicate c _ _))
theorem empty_new (hc : chk K.cx (.list .nil) p.sc p.Δ t = true) : NewInts K.prog K.w p.A p.s (eval t p.env) [] := onListE (P := fun t => NewInts K.prog K.w p.A p.s (eval t p.env) []) hc fun elts pos hc Q E hQ => by
  cases List.isEmpty_iff.mp (and2 hc)
  exact wpAny_List (wpAny_items_nil ⟨by decide, hQ _ [] _ (Kp.push _ _) (get_size _) ⟨_, _, Heap.get?_push_size _ rfl, rfl, rfl, rfl⟩ .nil⟩)
theorem ints_of : ∀ {vs : List Value} {ns : List Int}, vs.length = ns.length → (∀ (j : Nat) (v : Value), vs[j]? = some v → ∃ (k : Int) (t : Tok), ns[j]? = some k ∧ v = Value.int k t) → IntsAre vs ns
  | [], [], _, _ => .nil
  | [], _ :: _, h, _ => nomatch h
  | _ :: _, [], h, _ => nomatch h
  | v :: vs, k :: ns, h, hg => let ⟨_, t, e, e'⟩ := hg 0 v rfl; Option.some.inj e ▸ e' ▸ .cons _ t (ints_of (Nat.succ.inj h) fun j u hu => hg (j + 1) u hu)
theorem ItemsOf_ints {a c : Int} {n : Nat} {vs : Array Value} (h : ItemsOf (fun i v => ∃ t, v = .int (a + i * c) t) vs n) : IntsAre vs.toList ((List.range n).map fun (i : Nat) => a + (i : Int) * c) := by
  obtain ⟨hlen, hit⟩ := h
  refine ints_of (by rw [Array.length_toList, hlen, List.length_map, List.length_range]) fun j v hv => ?_
  have hj : j < n := hlen ▸ Array.length_toList ▸ lt_of_get hv
  obtain ⟨t, e⟩ := hit j v (Array.getElem?_toList ▸ hv)
  exact ⟨_, t, by rw [List.getElem?_map, List.getElem?_range hj]; rfl, e⟩
theorem range_new {es : EL} (hes : LsOk K es) (f : Fr K p) (hc : chk K.cx (.bi .listRange es) p.sc p.Δ t = true) (he : ev K.Γ (.bi .listRange es) p.ρ = some pv) : ∃ l, pv = .lst (l.map .int) ∧ NewInts K.prog K.w p.A p.s (eval t p.env) l :=
  callNE (P := fun t => ∃ l, pv = .lst (l.map .int) ∧ NewInts K.prog K.w p.A p.s (eval t p.env) l) hc fun q args pos h1 hc => l1E (P := fun args => ∃ l, pv = .lst (l.map .int) ∧ NewInts K.prog K.w p.A p.s (eval (.Call (.Name (biName .listRange) q) args [] pos) p.env) l) hc fun b hc =>
  callNE (P := fun b => ∃ l, pv = .lst (l.map .int) ∧ NewInts K.prog K.w p.A p.s (eval (.Call (.Name (biName .listRange) q) [b] [] pos) p.env) l) hc fun q' args pos' h2 hc => bindE he fun ds hds he => bindE he fun l hl he => ⟨l, (Option.some.inj he).symm, fun Q E hQ => by
  refine eval_Call_Name (f.bi h1 (K.C.bi .listRange) (PySem.callWith_type rfl (args_ok rfl rfl (wpAny_items_cons (eval_Call_Name (f.bi h2 ⟨K.C.seqs.1, K.C.seqs.2.1⟩ (PySem.callWith_type (plain_args (chkL_star (and1 hc))) (hes.args f hc hds fun us s₁ k1 r1 => range_call r1 hl fun a b c t u v k s₂ k2 hr hs h0 hz e => wpAny_items_nil ?_))))))))
  have k12 := k1.trans k2
  exact call_list_range (n := (Builtin.Range.rangeSize a b c).toNat) f.a.handled hr hs (Int.toNat_of_nonneg h0).symm (Nat.le_trans (Int.toNat_le.mpr hz) (by decide)) fun h' tk acc c' hk hg hit =>
    hQ _ acc.toList _ (k12.trans (Kp.of hk)) (k12.none (get_size _)) ⟨_, _, hg, rfl, rfl, rfl⟩ (e ▸ ItemsOf_ints hit)⟩
theorem listRange_ev {es : EL} (hes : LsOk K es) : EvOk K (.bi .listRange es) := fun p t pv f hc he => let ⟨_, e, h⟩ := range_new hes f hc he; e ▸ h.ok f.x.alive
theorem repl_ev {c : Int} {a : E} (ha : EvOk K a) : EvOk K (.repl c a) := fun p t pv f hc he => let ⟨_, e, h⟩ := repl_new ha f hc he; e ▸ h.ok f.x.alive

theorem strs_pairs {vs : List Value} {l : List Str} (h : StrsAre vs l) : ∃ q, vs = strValues q ∧ q.map (·.1) = l := by
  induction h with
  | nil => exact ⟨[], rfl, rfl⟩
  | cons x t _ ih =>
    obtain ⟨q, rfl, rfl⟩ := ih
    exact ⟨(x, t) :: q, rfl, rfl⟩
theorem fit_room {k : Nat} (h : room k = true) : Builtin.Str.tooLong k = false := decide_eq_false (Nat.not_lt.mpr (room_line h))
theorem plain_all {env : Env} {pos : Pos} : ∀ {vs : List Expr}, vs.all notStar = true → (backTo pos (starEach vs env)).all (fun x => !x.1) = true
  | [], _ => rfl
  | v :: vs, h => by
    rw [star_cons (and1 h)]
    exact plain_all (vs := vs) (and2 h)
theorem form_ok {k : Nat} {trees : List (Bool × Sem Value)} {kws : List (Option Str × Sem Value)} (hk : k < 20) (ht : trees.all (fun x => !x.1) = true) (hw : kws.all (·.1.isSome) = true) : methodCallForm k trees kws = true := by
  unfold methodCallForm
  rw [ht, hw]
  simp only [Bool.and_true, Bool.true_and, decide_eq_true_eq]
  split <;> omega
/-- a method of a Headers object is called -/
theorem hmeth_call {A : Around} {O : List Addr} {s : Shared} {env : Env} {o : Expr} {name : Str} {apos pos : Pos} {trees : List (Bool × Sem Value)} {kws : List (Option Str × Sem Value)} {x dx l f : Addr} {xs : List (Str × Str)} {ts : List Addr} {k : Nat} {Q E : Value → Shared → Prop}
    (hp : K.HP s.heap) (hh : HdrIs O s.heap x xs dx l ts) (hf : hTable.lookup name = some f) (hl : (apos.endLine == pos.line) = true) (hk : k < 20) (ht : trees.all (fun x => !x.1) = true) (hw : kws.all (·.1.isSome) = true)
    (h : wpAny (model K.prog K.w) A (evalArgs (.ref f) true trees kws) (fun a s₁ => Kp s s₁ ∧ wpAny (model K.prog K.w) A (call (.ref f) ([.ref x] ++ a.pos) a.kw) Q E s₁) E s) :
    wpAny (model K.prog K.w) A (methodCall o name apos pos env (.ref x) k trees kws) Q E s := by
  unfold methodCall
  rw [form_ok hk ht hw]
  refine wpAny_bind (wpAny_holding (K.C.hm name f hf A O s x dx l xs ts _ _ _ hp hh ?_))
  have hpos : methodCallPos true o env apos pos = pure pos := by
    unfold methodCallPos
    rw [hl]; rfl
  obtain ⟨o', fd, ho, hd⟩ := K.C.hfn name f hf _ hp
  exact wpAny_bind (wpAny_of_eq hpos (callWith_function_kw (o := o') (fd := fd) (wpAny_mono h (fun a s₁ h₁ => ⟨⟨h₁.1.get ho, hd⟩, h₁.2⟩) fun _ _ e => e)))
/-- just one argument -/
theorem one_arg {es : EL} {sc : Sc} {Δ : De} {vs : List Expr} {ρ : PE} {w : PV} (h : chkL K.cx es sc Δ vs = true) (h' : evL K.Γ es ρ = some [w]) (hes : LsAll K es) : ∃ e a, vs = [a] ∧ notStar a = true ∧ chk K.cx e sc Δ a = true ∧ ev K.Γ e ρ = some w ∧ EvOk K e := by
  cases es with
  | nil => cases Option.some.inj h'
  | cons e r => cases vs with
    | nil => exact nomatch h
    | cons a vs =>
        refine bindE h' fun d hd h' => bindE h' fun ds hds h' => ?_
        cases Option.some.inj h'
        cases List.eq_nil_of_length_eq_zero (evL_len r (and2 (and2 h)) hds).symm
        exact ⟨e, a, rfl, and1 h, and2 (and1 (and2 h)), hd, hes.1.1⟩
theorem lower_ev {o : Expr} {apos pos : Pos} {args : List Expr} {oe : E} {es : EL} {v : PV} {ds : List PV} (f : Fr K p) (ho : EvOk K oe) (h1 : notCall o = true) (h2 : (apos.endLine == pos.line) = true) (h4 : chk K.cx oe p.sc p.Δ o = true) (h5 : chkL K.cx es p.sc p.Δ args = true) (hv : ev K.Γ oe p.ρ = some v) (hds : evL K.Γ es p.ρ = some ds) (he : methP .lower v ds = some pv) :
    Ok K.prog K.w p.A p.O p.s (eval (.Call (.Attribute o (miName .lower) apos) args [] pos) p.env) pv :=
  bindE he fun x hx he => arg0E (P := fun ds => evL K.Γ es p.ρ = some ds → _) he (fun he hds => ifE he fun hr he => by
    cases List.eq_nil_of_length_eq_zero (evL_len es h5 hds).symm
    exact fun Q E hQ => Call_method0 (base_plain h1) h2 (ho p o v f h4 hv _ _ fun u s₁ k1 r1 => r1.strE (P := fun u => MethodOnS _ _ _ _ _ u _ _ _ _) hx fun t => SB.lower (fit_room hr) (hQ _ _ (k1.trans (Kp.toks _ _)) (Option.some.inj he ▸ .str _ _)))) hds
theorem join_ev {o : Expr} {apos pos : Pos} {args : List Expr} {oe : E} {es : EL} {v : PV} {ds : List PV} (f : Fr K p) (ho : EvOk K oe) (hes : LsAll K es) (h1 : notCall o = true) (h2 : (apos.endLine == pos.line) = true) (h4 : chk K.cx oe p.sc p.Δ o = true) (h5 : chkL K.cx es p.sc p.Δ args = true) (hv : ev K.Γ oe p.ρ = some v) (hds : evL K.Γ es p.ρ = some ds) (he : methP .join v ds = some pv) :
    Ok K.prog K.w p.A p.O p.s (eval (.Call (.Attribute o (miName .join) apos) args [] pos) p.env) pv :=
  bindE he fun x hx he => arg1E (P := fun ds => evL K.Γ es p.ρ = some ds → _) he (fun wv he hds => bindE he fun ys hys he => bindE he fun l hl he => ifE he fun hok he => by
    obtain ⟨e, a, rfl, q1, q2, q3, q4⟩ := one_arg h5 hds hes
    exact fun Q E hQ => Call_method1 (base_plain h1) (star_cons q1) h2 (ho p o v f h4 hv _ _ fun u s₁ k1 r1 => r1.strE (P := fun u => MethodOnS _ _ _ _ _ u _ _ _ _) hx fun t => SB.join (q4 (p.to s₁) a wv (f.kp k1) q2 q3 _ _ fun u' s₂ k2 r2 => by
      obtain ⟨a', vs, e, hll, rr⟩ := r2.lstE (P := fun u' => ∃ a' vs, u' = .ref a' ∧ s₂.heap.IsList a' (List.toArray vs) ∧ RepL p.O s₂.heap vs ys) hys fun a' vs _ hl r => ⟨a', vs, rfl, hl, r⟩
      obtain ⟨q, eq, el⟩ := strs_pairs (rr.strs hl)
      exact ⟨a', q, e, eq ▸ hll, _, rfl, el ▸ hok, fun t' k => hQ _ _ ((k1.trans k2).trans (Kp.toks _ _)) (Option.some.inj he ▸ el ▸ .str _ _)⟩))) hds
theorem meth_ev {m : MI} {o : E} {es : EL} (ho : EvOk K o) (hes : LsAll K es) : EvOk K (.meth m o es) := fun p t pv f hc he => onCallE hc fun g args kws pos hc => onAttributeE (P := fun g => Ok K.prog K.w p.A p.O p.s (eval (.Call g args kws pos) p.env) pv) hc fun v name apos hc =>
  l0E (P := fun kws => Ok K.prog K.w p.A p.O p.s (eval (.Call (.Attribute v name apos) args kws pos) p.env) pv) hc fun hc => beqE (P := fun name => Ok K.prog K.w p.A p.O p.s (eval (.Call (.Attribute v name apos) args [] pos) p.env) pv) hc fun hc => bindE he fun ov hov he => bindE he fun ds hds he => by
  have h1 := and1 hc
  have h2 := and1 (and2 hc)
  have h4 := and1 (and2 (and2 (and2 hc)))
  have h5 := and2 (and2 (and2 (and2 hc)))
  cases hh : ov.h? with
  | none =>
    rw [hh] at he
    cases m with
    | lower => exact lower_ev f ho h1 h2 h4 h5 hov hds he
    | join => exact join_ev f ho hes h1 h2 h4 h5 hov hds he
    | _ => exact none_some he
  | some hs =>
    rw [hh] at he
    obtain ⟨g, hg, hcall⟩ := K.C.hcall m _ _ he
    intro Q E hQ
    rw [arm_eval_Call, base_plain h1]
    refine wpAny_bind (ho p v ov f h4 hov _ _ fun u s₁ k1 r1 => wpAny_bind (wpAny_standAt (r1.hdrE (P := fun u => wpAny _ _ (methodCall v _ apos pos p.env u _ _ _) _ _ _) hh fun a dx l ts r1 => ?_)))
    have fin : ∀ us s₂, Kp s₁ s₂ → RepL p.O s₂.heap us ds → Kp s₁ s₂ ∧ wpAny (model K.prog K.w) p.A (call (.ref g) (.ref a :: us) []) Q E s₂ := fun us s₂ k2 r2 =>
      have k12 := k1.trans k2
      ⟨k2, (hcall p.A p.O s₂ _ f.a (f.kp k12).h (f.kp k12).x.alive (.cons (.hdr (r1.mono (.grow k2.keep))) r2)).then k12 hQ⟩
    refine hmeth_call (f.kp k1).h r1 hg h2 (of_decide_eq_true (and1 (and2 (and2 hc)))) (plain_all (chkL_star h5)) rfl ?_
    cases args with
    | nil =>
      cases List.eq_nil_of_length_eq_zero (evL_len es h5 hds)
      exact PySem.evalArgs_none (fin [] s₁ (Kp.refl _) .nil)
    | cons b rest => exact args_ok rfl (chkL_star h5) (LsAll.ls hes (p.to s₁) (b :: rest) ds (f.kp k1) h5 hds pos _ _ fin)
theorem hdr_items {O : List Addr} {h : Heap} : ∀ (ts : List Addr) (xs : List (Str × Str)), ts.length = xs.length → (∀ t p, (t, p) ∈ ts.zip xs → t ∉ O ∧ ∃ u v, h.IsTuple t #[.str p.1 u, .str p.2 v]) → RepL O h (ts.map Value.ref) (xs.map fun p => .tup [.str p.1, .str p.2])
  | [], [], _, _ => .nil
  | [], _ :: _, h, _ => nomatch h
  | _ :: _, [], h, _ => nomatch h
  | t :: ts, p :: xs, h, hi => let ⟨h1, u, v, h2⟩ := hi t p (.head _); .cons (.tup (vs := [.str p.1 u, .str p.2 v]) h1 h2 (.cons (.str _ _) (.cons (.str _ _) .nil))) (hdr_items ts xs (Nat.succ.inj h) fun t' p' hm => hi t' p' (.tail _ hm))
theorem hattr_ev {o : E} (ho : EvOk K o) : EvOk K (.hattr o) := fun p t pv f hc he => onAttributeE hc fun v nm pos hc => onNameE (P := fun v => Ok K.prog K.w p.A p.O p.s (eval (.Attribute v nm pos) p.env) pv) hc fun x q hc => beqE (P := fun nm => Ok K.prog K.w p.A p.O p.s (eval (.Attribute (.Name x q) nm pos) p.env) pv) hc fun hc =>
  bindE he fun ov hov he => bindE he fun xs hxs he => ifE he fun _ he => someE he fun Q E hQ => by
  rw [arm_eval_Attribute]
  exact wpAny_bind (ho p _ ov f hc hov _ _ fun u s₁ k1 r1 => wpAny_bind (wpAny_standAt (wpAny_bind (wpAny_holding (r1.hdrE (P := fun u => wpAny _ _ (getAttr u _ _) _ _ _) hxs fun a dx l ts r1 => K.C.hattr p.A p.O s₁ _ _ l xs _ _ _ (f.kp k1).h r1 fun tk =>
    wpAny_bind (wpAny_pure (wpAny_pure (hQ _ _ (k1.trans (Kp.toks _ _)) (.lst r1.lO r1.list.isList (hdr_items ts xs r1.len r1.item))))))))))
theorem conv_ev {o e : E} {b : Bool} (ho : EvOk K o) (he' : EvOk K e) : EvOk K (.conv o e b) := fun p t pv f hc he => onCallE hc fun g args kws pos hc => onAttributeE (P := fun g => Ok K.prog K.w p.A p.O p.s (eval (.Call g args kws pos) p.env) pv) hc fun v nm apos hc => l1E (P := fun args => Ok K.prog K.w p.A p.O p.s (eval (.Call (.Attribute v nm apos) args kws pos) p.env) pv) hc fun a hc =>
  l1E (P := fun kws => Ok K.prog K.w p.A p.O p.s (eval (.Call (.Attribute v nm apos) [a] kws pos) p.env) pv) hc fun kw hc => by
  obtain ⟨ka, kv, kp⟩ := kw
  refine o1E (P := fun ka => Ok K.prog K.w p.A p.O p.s (eval (.Call (.Attribute v nm apos) [a] [⟨ka, kv, kp⟩] pos) p.env) pv) hc fun k hc => onConstantE (P := fun kv => Ok K.prog K.w p.A p.O p.s (eval (.Call (.Attribute v nm apos) [a] [⟨some k, kv, kp⟩] pos) p.env) pv) hc fun c kk q hc =>
    beqE (P := fun nm => Ok K.prog K.w p.A p.O p.s (eval (.Call (.Attribute v nm apos) [a] [⟨some k, .Constant c kk q, kp⟩] pos) p.env) pv) hc fun hc => beqE (P := fun k => Ok K.prog K.w p.A p.O p.s (eval (.Call (.Attribute v _ apos) [a] [⟨some k, .Constant c kk q, kp⟩] pos) p.env) pv) hc fun hc =>
    beqE (P := fun c => Ok K.prog K.w p.A p.O p.s (eval (.Call (.Attribute v _ apos) [a] [⟨some _, .Constant c kk q, kp⟩] pos) p.env) pv) hc fun hc => bindE he fun ov hov he => bindE he fun hs hhs he => bindE he fun y hy he => bindE he fun x hx he => ?_
  obtain ⟨rfl, hcv⟩ := K.C.hconv hs x pv he
  have h1 := and1 hc
  have h2 := and1 (and2 hc)
  have h3 := and1 (and2 (and2 hc))
  intro Q E hQ
  rw [arm_eval_Call, base_plain h1]
  refine wpAny_bind (ho p v ov f (and1 (and2 (and2 (and2 hc)))) hov _ _ fun u s₁ k1 r1 => wpAny_bind (wpAny_standAt (r1.hdrE (P := fun u => wpAny _ _ (methodCall v _ apos pos p.env u _ _ _) _ _ _) hhs fun ad dx l ts r1 => ?_)))
  refine hmeth_call (f.kp k1).h r1 (f := 139) (by rfl) h3 (k := 2) (by decide) (plain_all (vs := [a]) (Bool.and_eq_true_iff.mpr ⟨h2, rfl⟩)) (by rfl) ?_
  rw [star_cons h2]
  refine evalArgs_kw (by rfl) (spliced_cons (he' (p.to s₁) a y (f.kp k1) (and2 (and2 (and2 (and2 hc)))) hy _ _ fun u2 s₂ k2 r2 => spliced_nil ?_))
  refine wpAny_evalAll_cons (wpAny_bind (wpAny_Constant_bool (wpAny_bind (wpAny_standAt (wpAny_pure (wpAny_evalAll_nil ?_))))))
  exact r2.strE (P := fun u2 => Kp s₁ s₂ ∧ wpAny _ _ (call (.ref 139) ([.ref ad] ++ [u2]) _) _ _ _) hx fun t => ⟨k2, hcv p.A s₂ _ t b f.a (f.kp (k1.trans k2)).h _ _ fun s₃ k3 => hQ _ _ (k1.trans (k2.trans k3)) (.str _ _)⟩
end
end Mine
end

-- Q14b
section
open PySem PyProof.Rows PySem.Calls PySem.Spec PySem.W
set_option maxRecDepth 100000
set_option autoImplicit false
namespace Mine
section
variable {K : Ctx} {p : Pt}
theorem tgIs_Is {tg : Tg} {t : Expr} (h : tgIs tg t = true) : tg.Is t := by
  cases tg with
  | one x i => exact onNameE h fun y q h => ⟨q, congrArg (Expr.Name · q) (eq_of_beq h).symm⟩
  | two x i y j =>
    exact onTupleE h fun es k r h => l2E (P := fun es => (Tg.two x i y j).Is (.Tuple es k r)) h fun a b h => onNameE (P := fun a => (Tg.two x i y j).Is (.Tuple [a, b] k r)) h fun a q h => onNameE (P := fun b => (Tg.two x i y j).Is (.Tuple [.Name a q, b] k r)) h fun b q' h =>
      beqE (P := fun a => (Tg.two x i y j).Is (.Tuple [.Name a q, .Name b q'] k r)) h fun h => beqE (P := fun b => (Tg.two x i y j).Is (.Tuple [.Name x q, .Name b q'] k r)) h fun h => ⟨bne_iff_ne.mp h, q, q', k, r, rfl⟩
structure ScopeIs (sc : Sc) (scope : Scope) (tg : Tg) (Δ : De) : Prop where
  c : CompScope sc scope
  names : ∀ x ∈ tg.names, scope.names.lookup x = some .local ∨ scope.names.lookup x = some .cell
  nodup : tg.slots.Nodup
  off : ∀ p ∈ Δ, p.2 ∉ tg.slots
theorem scopeOk_1 {sc : Sc} {scope : Scope} {tg : Tg} {Δ : De} (h : scopeOk sc scope tg Δ = true) : ScopeIs sc scope tg Δ :=
  ⟨⟨of_decide_eq_true (and1 h), of_decide_eq_true (and1 (and2 h)), fun n hn => of_decide_eq_true (and1 (and2 (and2 h))) (n, .free) hn rfl⟩, of_decide_eq_true (and1 (and2 (and2 (and2 h)))), of_decide_eq_true (and1 (and2 (and2 (and2 (and2 h))))), of_decide_eq_true (and2 (and2 (and2 (and2 (and2 h)))))⟩
theorem two_is {tg : Tg} {t : Expr} {P : Tg → Expr → Prop} (h : isTwo tg = true) (ht : tgIs tg t = true) (k : ∀ x i y j elts k r, P (.two x i y j) (.Tuple elts k r)) : P tg t := by
  cases tg with
  | one => exact nomatch h
  | two x i y j =>
    obtain ⟨_, p, q, k', r, rfl⟩ := tgIs_Is ht
    exact k _ _ _ _ _ _ _
theorem items_len {d : PV} {items : List PV} (he : itemsP d = some items) : items.length ≤ sizeLine := by
  cases d with
  | lst => exact ifE he fun h he => Option.some.inj he ▸ room_line h
  | tup => exact ifE he fun h he => Option.some.inj he ▸ room_line h
  | str => exact ifE he fun h he => Option.some.inj he ▸ (List.length_map _).symm ▸ Array.length_toList.symm ▸ room_line h
  | byt => exact ifE he fun h he => Option.some.inj he ▸ (List.length_map _).symm ▸ Array.length_toList.symm ▸ room_line h
  | _ => exact none_some he
theorem exp_sr {e : E} (he' : EvOk K e) : SrOk K (.exp e) := fun p it tg target items hc _ he => bindE he fun v hv he =>
  ⟨items_len he, fun env v => notSet_folded (and1 hc) env v, fun f Q E hQ => he' p it v f (and2 hc) hv _ _ fun u s₁ k r => feed_value f.a.handled r he fun it s₂ fd => hQ it s₂ (fd.of k)⟩
theorem range_len {a b c : Int} (h : 0 ≤ Builtin.Range.rangeSize a b c ∧ Builtin.Range.rangeSize a b c ≤ 4096) : (rangeP a b c).length ≤ sizeLine := by
  unfold rangeP
  rw [List.length_map, List.length_range]
  exact Nat.le_trans (Int.toNat_le.mpr h.2) (by decide)
theorem rangeOf_len {ds : List PV} {l : List Int} (h : rangeOf ds = some l) : l.length ≤ sizeLine := by
  cases ds with
  | nil => exact none_some h
  | cons d ds => cases ds with
    | nil => exact bindE h fun b _ h => ifE h fun hc h => Option.some.inj h ▸ range_len (range_facts (a := 0) (c := 1) (by decide) hc (by decide)).2
    | cons e ds =>
      have h : arg2 (e :: ds) (range3 d) = some l := h
      exact arg2E (P := fun _ => l.length ≤ sizeLine) h fun x y h => iiE (P := fun _ _ => l.length ≤ sizeLine) h fun a b h => bindE h fun c _ h => ifE h fun q h => Option.some.inj h ▸ range_len (range_facts ⟨q.1, q.2.1⟩ ⟨Int.le_trans (by decide) q.2.2.1, q.2.2.2.1⟩ q.2.2.2.2).2
theorem range_sr {es : EL} (hes : LsOk K es) : SrOk K (.range es) := fun p it tg target items hc _ he => callNE (P := fun it => items.length ≤ sizeLine ∧ (∀ (env : Env) v, foldedSetIterable it env v = pure v) ∧ (Fr K p → FeedOk K.prog K.w p.A target p.O p.s tg items it p.env)) hc fun q args pos h1 hc => bindE he fun ds hds he => bindE he fun l hl he => by
  cases Option.some.inj he
  exact ⟨(List.length_map _).symm ▸ rangeOf_len hl, fun _ _ => rfl, fun f Q E hQ => eval_Call_Name (f.bi h1 ⟨K.C.seqs.1, K.C.seqs.2.1⟩ (PySem.callWith_type (plain_args (chkL_star (and1 hc))) (hes.args f hc hds fun us s₁ k1 r1 => feed_range f.a.handled r1 hl fun it s₂ fd => hQ it s₂ (fd.of k1))))⟩
theorem zip_sr {a b : E} (ha : EvOk K a) (hb : EvOk K b) : SrOk K (.zip a b) := fun p it tg target items hc ht he => callNE (P := fun it => items.length ≤ sizeLine ∧ (∀ (env : Env) v, foldedSetIterable it env v = pure v) ∧ (Fr K p → FeedOk K.prog K.w p.A target p.O p.s tg items it p.env)) hc fun q args pos h1 hc =>
  l2E (P := fun args => items.length ≤ sizeLine ∧ (∀ (env : Env) v, foldedSetIterable (.Call (.Name _ q) args [] pos) env v = pure v) ∧ (Fr K p → FeedOk K.prog K.w p.A target p.O p.s tg items (.Call (.Name _ q) args [] pos) p.env)) hc fun l r hc =>
  bindE he fun x hx he => bindE he fun xs hxs he => bindE he fun y hy he => bindE he fun ys hys he => ifE he fun hr he => by
  have h3 := and1 (and2 hc)
  have h4 := and1 (and2 (and2 hc))
  have st : ([l, r] : List Expr).all notStar = true := Bool.and_eq_true_iff.mpr ⟨h3, Bool.and_eq_true_iff.mpr ⟨h4, rfl⟩⟩
  refine ⟨Option.some.inj he ▸ Nat.le_trans ((zipP_length xs ys) ▸ Nat.min_le_left ..) (room_line (and1 hr)), fun _ _ => rfl, fun f => two_is (P := fun tg target => FeedOk K.prog K.w p.A target p.O p.s tg items (.Call (.Name _ q) [l, r] [] pos) p.env) (and1 hc) ht fun x1 i1 y1 j1 elts k p' Q E hQ => ?_⟩
  refine eval_Call_Name (f.bi h1 ⟨K.C.seqs.2.2.1, K.C.seqs.2.2.2.1⟩ (PySem.callWith_type (plain_args st) (args_ok rfl st (wpAny_items_cons (ha p l x f (and1 (and2 (and2 (and2 hc)))) hx _ _ fun u s₁ k1 r1 => wpAny_items_cons (hb (p.to s₁) r y (f.kp k1) (and2 (and2 (and2 (and2 hc)))) hy _ _ fun u' s₂ k2 r2 => wpAny_items_nil ?_) (star_cons h4)) (star_cons h3)))))
  exact (r1.keeps k2).lstE (P := fun u => wpAny _ _ (call (.type "zip") [u, u']) _ _ _) hxs fun a1 v1 o1 l1 q1 => r2.lstE (P := fun u' => wpAny _ _ (call (.type "zip") [.ref a1, u']) _ _ _) hys fun a2 v2 o2 l2 q2 => feed_zip f.a.handled l1 l2 o1 o2 q1 q2 fun it s₂ fd => hQ it s₂ (Option.some.inj he ▸ fd.of (k1.trans k2))
theorem enum_sr {a : E} (ha : EvOk K a) : SrOk K (.enum a) := fun p it tg target items hc ht he => callNE (P := fun it => items.length ≤ sizeLine ∧ (∀ (env : Env) v, foldedSetIterable it env v = pure v) ∧ (Fr K p → FeedOk K.prog K.w p.A target p.O p.s tg items it p.env)) hc fun q args pos h1 hc =>
  l1E (P := fun args => items.length ≤ sizeLine ∧ (∀ (env : Env) v, foldedSetIterable (.Call (.Name _ q) args [] pos) env v = pure v) ∧ (Fr K p → FeedOk K.prog K.w p.A target p.O p.s tg items (.Call (.Name _ q) args [] pos) p.env)) hc fun l hc =>
  bindE he fun x hx he => bindE he fun xs hxs he => ifE he fun hr he => by
  have h3 := and1 (and2 hc)
  have st : ([l] : List Expr).all notStar = true := Bool.and_eq_true_iff.mpr ⟨h3, rfl⟩
  refine ⟨Option.some.inj he ▸ (enumP_length xs 0).symm ▸ room_line hr, fun _ _ => rfl, fun f => two_is (P := fun tg target => FeedOk K.prog K.w p.A target p.O p.s tg items (.Call (.Name _ q) [l] [] pos) p.env) (and1 hc) ht fun x1 i1 y1 j1 elts k p' Q E hQ => ?_⟩
  refine eval_Call_Name (f.bi h1 K.C.seqs.2.2.2.2 (PySem.callWith_type (plain_args st) (args_ok rfl st (wpAny_items_cons (ha p l x f (and2 (and2 hc)) hx _ _ fun u s₁ k1 r1 => wpAny_items_nil ?_) (star_cons h3)))))
  exact r1.lstE (P := fun u => wpAny _ _ (call (.type "enumerate") [u]) _ _ _) hxs fun a1 v1 o1 l1 q1 => feed_enum f.a.handled l1 o1 q1 fun it s₂ fd => hQ it s₂ (Option.some.inj he ▸ fd.of k1)
/-- the turn of a comprehension -/
noncomputable def compF (Γ : Nat → List PV → Option PV) (tg : Tg) (ρ : PE) (elt : E) : PV → Option (Option PV) := fun x => (bindT tg x ρ.bare).bind fun ρ' => (ev Γ elt ρ').bind fun y => some (some y)
noncomputable def compIfF (Γ : Nat → List PV → Option PV) (tg : Tg) (ρ : PE) (elt c : E) : PV → Option (Option PV) := fun x => (bindT tg x ρ.bare).bind fun ρ' => (trP (ev Γ c ρ')).bind fun t => cond t ((ev Γ elt ρ').bind fun y => some (some y)) (some none)
theorem comp_body {A : Around} {elt : E} {tg : Tg} {scope : Scope} {Δ : De} {ρ : PE} {e : Expr} (hA : AOk K.n A) (helt : EvOk K elt) (hc : chk K.cx elt scope.names (tg.tab ++ freeOf scope.names Δ) e = true) :
    CompBody K.prog K.w A K.HP Δ ρ scope tg [] e (compF K.Γ tg ρ elt) := fun d r hd => bindE hd fun ρ' hb hd => bindE hd fun z hz hd =>
  ⟨ρ', hb, fun O' cenv s' x hp Q E _ hQ => wpAny_pure (hQ s' (Kp.refl _) ⟨z, (Option.some.inj hd).symm, helt ⟨_, _, _, _, _, _, _⟩ _ _ ⟨hA, hp, x⟩ hc hz⟩)⟩
theorem compIf_body {A : Around} {elt c : E} {tg : Tg} {scope : Scope} {Δ : De} {ρ : PE} {e d : Expr} (hA : AOk K.n A) (helt : EvOk K elt) (hcd : TrOk K c) (hc : chk K.cx elt scope.names (tg.tab ++ freeOf scope.names Δ) e = true) (hc2 : (tst c d && chk K.cx c scope.names (tg.tab ++ freeOf scope.names Δ) d) = true) :
    CompBody K.prog K.w A K.HP Δ ρ scope tg [d] e (compIfF K.Γ tg ρ elt c) := fun dv r hd => bindE hd fun ρ' hb hd => bindE hd fun t ht hd =>
  ⟨ρ', hb, fun O' cenv s' x hp Q E hQ0 hQ1 => by
    have f : Fr K ⟨scope.names, tg.tab ++ freeOf scope.names Δ, ρ', A, O', cenv, s'⟩ := ⟨hA, hp, x⟩
    rw [List.forIn_cons, if_pos rfl]
    refine wpAny_bind (wpAny_bind (hcd _ d t f hc2 ht _ _ fun s'' k => wpAny_pure (wpAny_pure ?_)))
    cases t with
    | true => exact bindE hd fun z hz hd => hQ1 s'' k ⟨z, (Option.some.inj hd).symm, helt _ e z (f.kp k) hc hz⟩
    | false => exact hQ0 s'' k (Option.some.inj hd).symm⟩
/-- a comprehension's parts -/
structure CompIs (K : Ctx) (p : Pt) (tg : Tg) (src : Src) (tt it : Expr) (scope : Scope) (items : List PV) : Prop where
  s : ScopeIs p.sc scope tg p.Δ
  t : tg.Is tt
  len : items.length ≤ sizeLine
  set : ∀ v, foldedSetIterable it p.env v = pure v
  feed : Fr K p → FeedOk K.prog K.w p.A tt p.O p.s tg items it p.env
theorem comp_is {tg : Tg} {src : Src} {tt it : Expr} {scope : Scope} {items : List PV} (hsrc : SrOk K src) (h1 : tgIs tg tt = true) (h2 : scopeOk p.sc scope tg p.Δ = true) (h3 : chkS K.cx src p.sc p.Δ (isTwo tg) it = true) (hi : evS K.Γ src p.ρ = some items) : CompIs K p tg src tt it scope items :=
  let ⟨s1, s2, s3⟩ := hsrc p it tg tt items h3 h1 hi; ⟨scopeOk_1 h2, tgIs_Is h1, s1, s2 p.env, s3⟩
theorem compE {elt : E} {tg : Tg} {src : Src} {t : Expr} {pv : PV} {P : Expr → PV → Prop} (hsrc : SrOk K src) (hc : chk K.cx (.comp elt tg src) p.sc p.Δ t = true) (he : ev K.Γ (.comp elt tg src) p.ρ = some pv)
    (k : ∀ e tt it scope pos items ys, CompIs K p tg src tt it scope items → chk K.cx elt scope.names (tg.tab ++ freeOf scope.names p.Δ) e = true → compGo (compF K.Γ tg p.ρ elt) items = some ys → P (.ListComp e [⟨tt, it, [], 0⟩] scope pos) (.lst ys)) : P t pv :=
  bindE he fun items hi he => bindE he fun ys hys he => Option.some.inj he ▸ onListCompE (P := fun t => P t (.lst ys)) hc fun e gs scope pos hc => l1E (P := fun gs => P (.ListComp e gs scope pos) (.lst ys)) hc fun g hc => onGenE (P := fun g => P (.ListComp e [g] scope pos) (.lst ys)) hc fun tt it ifs hc => l0E (P := fun ifs => P (.ListComp e [⟨tt, it, ifs, 0⟩] scope pos) (.lst ys)) hc fun hc =>
    k e tt it scope pos items ys (comp_is hsrc (and1 hc) (and1 (and2 hc)) (and1 (and2 (and2 hc))) hi) (and2 (and2 (and2 hc))) hys
theorem compIfE {elt c : E} {tg : Tg} {src : Src} {t : Expr} {pv : PV} {P : Expr → PV → Prop} (hsrc : SrOk K src) (hc : chk K.cx (.compIf elt tg src c) p.sc p.Δ t = true) (he : ev K.Γ (.compIf elt tg src c) p.ρ = some pv)
    (k : ∀ e tt it d scope pos items ys, CompIs K p tg src tt it scope items → chk K.cx elt scope.names (tg.tab ++ freeOf scope.names p.Δ) e = true → (tst c d && chk K.cx c scope.names (tg.tab ++ freeOf scope.names p.Δ) d) = true → compGo (compIfF K.Γ tg p.ρ elt c) items = some ys → P (.ListComp e [⟨tt, it, [d], 0⟩] scope pos) (.lst ys)) : P t pv :=
  bindE he fun items hi he => bindE he fun ys hys he => Option.some.inj he ▸ onListCompE (P := fun t => P t (.lst ys)) hc fun e gs scope pos hc => l1E (P := fun gs => P (.ListComp e gs scope pos) (.lst ys)) hc fun g hc => onGenE (P := fun g => P (.ListComp e [g] scope pos) (.lst ys)) hc fun tt it ifs hc => l1E (P := fun ifs => P (.ListComp e [⟨tt, it, ifs, 0⟩] scope pos) (.lst ys)) hc fun d hc =>
    k e tt it d scope pos items ys (comp_is hsrc (and1 hc) (and1 (and2 hc)) (and1 (and2 (and2 hc))) hi) (and1 (and2 (and2 (and2 hc)))) (and2 (and2 (and2 (and2 hc)))) hys
theorem comp_ev {elt : E} {tg : Tg} {src : Src} (helt : EvOk K elt) (hsrc : SrOk K src) : EvOk K (.comp elt tg src) := fun p t pv f hc he => compE (P := fun t pv => Ok K.prog K.w p.A p.O p.s (eval t p.env) pv) hsrc hc he fun e tt it scope pos items ys c h4 hys =>
  comp_ok K.C.wd f.h f.a.handled c.s.c c.t c.s.names c.s.nodup c.s.off f.x (c.feed f) c.set c.len hys (comp_body f.a helt h4)
theorem compIf_ev {elt c : E} {tg : Tg} {src : Src} (helt : EvOk K elt) (hsrc : SrOk K src) (hcd : TrOk K c) : EvOk K (.compIf elt tg src c) := fun p t pv f hc he => compIfE (P := fun t pv => Ok K.prog K.w p.A p.O p.s (eval t p.env) pv) hsrc hc he fun e tt it d scope pos items ys c h4 h5 hys =>
  comp_ok K.C.wd f.h f.a.handled c.s.c c.t c.s.names c.s.nodup c.s.off f.x (c.feed f) c.set c.len hys (compIf_body f.a helt hcd h4 h5)

mutual
theorem all_E : ∀ e : E, EvOk K e ∧ TrOk K e
  | .lit _ => pair lit_ev rfl
  | .var _ => pair var_ev rfl
  | .glob _ _ => pair glob_ev rfl
  | .bin _ a b => pair (bin_ev (all_E a).1 (all_E b).1) rfl
  | .neg a => pair (neg_ev (all_E a).1) rfl
  | .notE a => ⟨not_ev (all_E a).1, not_tr (all_E a).2⟩
  | .cmp _ a b => ⟨cmp_ev (all_E a).1 (all_E b).1, cmp_tr (all_E a).1 (all_E b).1⟩
  | .boolop _ es => ⟨boolop_ev (LsAll.bo es (all_EL es)), boolop_tr (LsAll.bt es (all_EL es))⟩
  | .ite c a b => ⟨ite_ev (all_E c).2 (all_E a).1 (all_E b).1, ite_tr (all_E c).2 (all_E a).2 (all_E b).2⟩
  | .call _ es => pair (call_ev (LsAll.ls (all_EL es))) rfl
  | .bi b es => pair ((Classical.em (b = .listRange)).elim (fun h => h ▸ listRange_ev (LsAll.ls (all_EL es))) fun h => bi_ev h (LsAll.ls (all_EL es))) rfl
  | .meth _ o es => pair (meth_ev (all_E o).1 (all_EL es)) rfl
  | .comp elt _ src => pair (comp_ev (all_E elt).1 (all_Src src)) rfl
  | .compIf elt _ src c => pair (compIf_ev (all_E elt).1 (all_Src src) (all_E c).2) rfl
  | .idx a i => pair (idx_ev (all_E a).1 (all_E i).1) rfl
  | .slLo a lo => pair (slLo_ev (all_E a).1 (all_E lo).1) rfl
  | .slHi a hi => pair (slHi_ev (all_E a).1 (all_E hi).1) rfl
  | .slLH a lo hi => pair (slLH_ev (all_E a).1 (all_E lo).1 (all_E hi).1) rfl
  | .tup es => pair (tup_ev (LsAll.ls (all_EL es))) rfl
  | .list es => pair (list_ev (LsAll.ls (all_EL es))) rfl
  | .repl _ a => pair (repl_ev (all_E a).1) rfl
  | .oidx _ i => pair (oidx_ev (all_E i).1) rfl
  | .hattr o => pair (hattr_ev (all_E o).1) rfl
  | .conv o e _ => pair (conv_ev (all_E o).1 (all_E e).1) rfl
theorem all_EL : ∀ es : EL, LsAll K es
  | .nil => trivial
  | .cons e r => ⟨all_E e, all_EL r⟩
theorem all_Src : ∀ src : Src, SrOk K src
  | .exp e => exp_sr (all_E e).1
  | .range es => range_sr (LsAll.ls (all_EL es))
  | .zip a b => zip_sr (all_E a).1 (all_E b).1
  | .enum a => enum_sr (all_E a).1
end
end
end Mine
end

-- Q15
section
open PySem PyProof.Rows PySem.Calls PySem.Spec PySem.W
set_option maxRecDepth 100000
set_option autoImplicit false
set_option genSizeOf false
set_option genInjectivity false
namespace Mine

structure Frame (env : Env) (sc : Sc) (Δ : De) (s₀ : Shared) : Prop where
  kind : env.scope.kind = .function
  globals : env.globals = mainGlobals
  builtins : env.builtins = builtinsNs
  gl : ∀ x, sc.lookup x = some .globalImplicit → env.kindOf x = some .globalImplicit
  clos : ∀ x, (sc.lookup x = some .cell ∨ sc.lookup x = some .free) → (env.kindOf x = some .cell ∨ env.kindOf x = some .free) ∧ ∃ c, env.cells.lookup x = some c
  loc : ∀ x, sc.lookup x = some .local → env.kindOf x = some .local
  fresh : ∀ a ∈ Mine.own env, s₀.heap.get? a = none
  sto : ∀ x i, Δ.lookup x = some i → Sto env x
  inj : ∀ x y i, Δ.lookup x = some i → Δ.lookup y = some i → x = y
noncomputable def VarsAt (env : Env) (h : Heap) (Δ : De) (O : List Addr) (ρ : PE) : Prop := ∀ x i pv, Δ.lookup x = some i → ρ.get i = some pv → ∃ v, Look env h x v ∧ Rep O h v pv
noncomputable def OwnAt (env : Env) (h : Heap) (Δ : De) (W : List Addr) (o : Option (Nat × List Int)) : Prop := ∀ i xs, o = some (i, xs) → ∀ x, Δ.lookup x = some i → ∃ a vs, Look env h x (.ref a) ∧ a ∈ W ∧ PlainL h a vs.toArray ∧ IntsAre vs xs
/-- the owned Headers object's addresses -/
structure HdrAt (h : Heap) (W B : List Addr) (xs : List (Str × Str)) (a dx l : Addr) (ts : List Addr) : Prop where
  ha : a ∈ W
  hd : dx ∈ W
  hl : l ∈ W
  is : HdrIs B h a xs dx l ts
  off : ∀ t ∈ ts, t ∉ W ++ B
noncomputable def HownAt (env : Env) (h : Heap) (Δ : De) (W B : List Addr) (o : Option (Nat × List (Str × Str))) : Prop := ∀ i xs, o = some (i, xs) → ∀ x, Δ.lookup x = some i → ∃ a dx l ts, Look env h x (.ref a) ∧ HdrAt h W B xs a dx l ts
structure Fst (env : Env) (Δ : De) (s₀ : Shared) (O₀ : List Addr) (ρ : PE) (W : List Addr) (s : Shared) : Prop where
  kp : Kp s₀ s
  envin : EnvIn env s.heap
  vars : VarsAt env s.heap Δ (W ++ (Mine.own env ++ O₀)) ρ
  alive : Alive (W ++ O₀) s.heap
  wnew : ∀ a ∈ W, s₀.heap.get? a = none
  woff : ∀ a ∈ W, a ∉ Mine.own env ++ O₀
  own : OwnAt env s.heap Δ W ρ.own
  hown : HownAt env s.heap Δ W (Mine.own env ++ O₀) ρ.hown
  one : ρ.own = none ∨ ρ.hown = none
structure Gr (env : Env) (W : List Addr) (s s' : Shared) (W' : List Addr) : Prop where
  keep : ∀ b o, b ∉ Mine.own env → b ∉ W → s.heap.get? b = some o → s'.heap.get? b = some o
  wnew : ∀ b ∈ W', b ∈ W ∨ s.heap.get? b = none
theorem inL {α : Type} {a : α} {l r : List α} (h : a ∈ l) : a ∈ l ++ r := List.mem_append_left _ h
theorem inR {α : Type} {a : α} {l r : List α} (h : a ∈ r) : a ∈ l ++ r := List.mem_append_right _ h
theorem inE {α : Type} {a : α} {l r : List α} {P : Prop} (h : a ∈ l ++ r) (k1 : a ∈ l → P) (k2 : a ∈ r → P) : P := (List.mem_append.mp h).elim k1 k2
theorem Kp.upd {s₀ s : Shared} (k : Kp s₀ s) {h' : Heap} {tk : Nat} (g : ∀ b o, s₀.heap.get? b = some o → s.heap.get? b = some o → h'.get? b = some o) : Kp s₀ { s with heap := h', toks := tk } := by
  obtain ⟨⟨h, t, rfl⟩, k'⟩ := k
  exact ⟨⟨h', tk, rfl⟩, fun b o e => g b o e (k' b o e)⟩
theorem Look.but {env : Env} {h h' : Heap} {x : Str} {v : Value} (l : Look env h x v) (k : ∀ b ∈ Mine.own env, ∀ o, h.get? b = some o → h'.get? b = some o) : Look env h' x v :=
  l.elim (fun ⟨q, m, ⟨o, es, ep, e1, e2⟩, e⟩ => .inl ⟨q, m, ⟨o, es, ep, k _ (.head _) _ e1, e2⟩, e⟩) fun ⟨q, c, e, ⟨o, e1, e2⟩⟩ => .inr ⟨q, c, e, ⟨o, k _ (.tail _ (List.mem_map.mpr ⟨_, mem_of_lookup e, rfl⟩)) _ e1, e2⟩⟩
theorem HdrIs.at {O : List Addr} {h : Heap} {x dx l t : Addr} {xs : List (Str × Str)} {ts : List Addr} (r : HdrIs O h x xs dx l ts) (ht : t ∈ ts) : ∃ o, h.get? t = some o := by
  obtain ⟨j, hj, rfl⟩ := List.getElem_of_mem ht
  have hj' : j < (ts.zip xs).length := by rw [List.length_zip, ← r.len, Nat.min_self]; exact hj
  have := List.getElem_mem hj'
  rw [List.getElem_zip] at this
  obtain ⟨_, u, v, o, e, _⟩ := r.item _ _ this
  exact ⟨o, e⟩
section
variable {env : Env} {sc : Sc} {Δ : De} {s₀ s s' s'' : Shared} {O₀ O₁ X W W' W'' B B' : List Addr} {ρ ρ' : PE} {h h' : Heap}
theorem VarsAt.mv {O O' : List Addr} (x : VarsAt env h Δ O ρ) (l : ∀ b ∈ Mine.own env, ∀ o, h.get? b = some o → h'.get? b = some o) (m : Mv O O' h h') : VarsAt env h' Δ O' ρ := fun y i pv h1 h2 => let ⟨v, lk, r⟩ := x y i pv h1 h2; ⟨v, lk.but l, r.mono' m⟩
theorem OwnAt.mv {o : Option (Nat × List Int)} (x : OwnAt env h Δ W o) (l : ∀ b ∈ Mine.own env, ∀ o, h.get? b = some o → h'.get? b = some o) (k : ∀ b ∈ W, ∀ o, h.get? b = some o → h'.get? b = some o) : OwnAt env h' Δ W o :=
  fun i xs e y hy => let ⟨a, vs, lk, hw, ⟨o, n, p, q⟩, r⟩ := x i xs e y hy; ⟨a, vs, lk.but l, hw, ⟨o, n, k a hw o p, q⟩, r⟩
theorem HownAt.mv {o : Option (Nat × List (Str × Str))} (x : HownAt env h Δ W B o) (l : ∀ b ∈ Mine.own env, ∀ o, h.get? b = some o → h'.get? b = some o) (m : Mv B B' h h') : HownAt env h' Δ W B' o :=
  fun i xs e y hy => let ⟨a, dx, l', ts, lk, q⟩ := x i xs e y hy; ⟨a, dx, l', ts, lk.but l, q.ha, q.hd, q.hl, q.is.mono m, fun t ht hm => inE hm (fun hm => q.off t ht (inL hm)) (m.o t (fun h => q.off t ht (inR h)) (q.is.at ht))⟩
theorem Gr.kp (k : Kp s s') : Gr env W s s' W := ⟨fun _ _ _ _ e => k.get e, fun _ h => .inl h⟩
theorem Gr.trans (x : Gr env W s s' W') (y : Gr env W' s' s'' W'') (hw : ∀ a ∈ W'', a ∉ Mine.own env ++ O₀) : Gr env W s s'' W'' := by
  refine ⟨fun b o h1 h2 e => y.keep b o h1 (fun h => (x.wnew b h).elim h2 fun h => nomatch h.symm.trans e) (x.keep b o h1 h2 e), fun b hb => (y.wnew b hb).elim (x.wnew b) fun h => ?_⟩
  cases e : s.heap.get? b with
  | none => exact .inr rfl
  | some o => exact (Classical.em (b ∈ W)).elim .inl fun h2 => nomatch h.symm.trans (x.keep b o (fun q => hw b hb (inL q)) h2 e)
theorem Fst.aliveAll (x : Fst env Δ s₀ O₀ ρ W s) : Alive (W ++ (Mine.own env ++ O₀)) s.heap := fun a ha => inE ha (fun h => x.alive a (inL h)) fun h => inE h (x.envin.alive a) fun h => x.alive a (inR h)
theorem Fst.okEnv (F : Frame env sc Δ s₀) (x : Fst env Δ s₀ O₀ ρ W s) : EnvOk sc Δ (W ++ (Mine.own env ++ O₀)) env ρ s.heap where
  kind := F.kind
  globals := F.globals
  builtins := F.builtins
  gl := F.gl
  clos := F.clos
  envin := x.envin
  vars := x.vars
  own := fun i xs h y hy => let ⟨a, vs, l, hw, r⟩ := x.own i xs h y hy; ⟨a, vs, l, inL hw, r⟩
  alive := x.aliveAll
  sub := fun _ ha => inR (inL ha)
/-- what is in X alone changes; the outer addresses become O₁ -/
theorem Fst.mv (x : Fst env Δ s₀ O₀ ρ W s) (kp : Kp s₀ s') (hk : ∀ b o, b ∉ X → s.heap.get? b = some o → s'.heap.get? b = some o) (hX : ∀ b ∈ X, b ∉ Mine.own env ∧ b ∈ O₀) (hO : ∀ b, b ∉ O₀ → (∃ o, s.heap.get? b = some o) → b ∉ O₁) (hal : Alive O₁ s'.heap) : Fst env Δ s₀ O₁ ρ W s' :=
  have kw : ∀ b ∈ W, ∀ o, s.heap.get? b = some o → s'.heap.get? b = some o := fun b hb o e => hk b o (fun h => x.woff b hb (inR (hX b h).2)) e
  have ko : ∀ b ∈ Mine.own env, ∀ o, s.heap.get? b = some o → s'.heap.get? b = some o := fun b hb o e => hk b o (fun h => (hX b h).1 hb) e
  have mb : Mv (Mine.own env ++ O₀) (Mine.own env ++ O₁) s.heap s'.heap := ⟨fun a ha ho hm => inE hm (fun h => ha (inL h)) (hO a (fun h => ha (inR h)) ho), fun a o ha e => hk a o (fun h => ha (inR (hX a h).2)) e⟩
  have ma : Mv (W ++ (Mine.own env ++ O₀)) (W ++ (Mine.own env ++ O₁)) s.heap s'.heap := ⟨fun a ha ho hm => inE hm (fun h => ha (inL h)) (mb.o a (fun h => ha (inR h)) ho), fun a o ha e => mb.k a o (fun h => ha (inR h)) e⟩
  ⟨kp, x.envin.but ko, x.vars.mv ko ma, fun a ha => inE ha (fun h => let ⟨o, e⟩ := x.alive a (inL h); ⟨o, kw a h o e⟩) (hal a), x.wnew, fun a ha => mb.o a (x.woff a ha) (x.alive a (inL ha)), x.own.mv ko kw, x.hown.mv ko mb, x.one⟩
theorem Fst.step (x : Fst env Δ s₀ O₀ ρ W s) (k : Kp s s') : Fst env Δ s₀ O₀ ρ W s' := x.mv (X := []) (x.kp.trans k) (fun _ _ _ e => k.get e) (fun _ h => nomatch h) (fun _ h _ => h) (Alive.keeps (fun a ha => x.alive a (inR ha)) k)
/-- the frame's own sets are empty of it -/
theorem free_own {i j : Nat} {xs : List Int} (h : ρ.free i = true) (e : ρ.own = some (j, xs)) : j ≠ i := by
  unfold PE.free at h
  rw [e] at h
  exact bne_iff_ne.mp (and1 h)
theorem free_hown {i j : Nat} {xs : List (Str × Str)} (h : ρ.free i = true) (e : ρ.hown = some (j, xs)) : j ≠ i := by
  unfold PE.free at h
  rw [e] at h
  exact bne_iff_ne.mp (and2 h)
theorem bindT_free {tg : Tg} {d : PV} (h : bindT tg d ρ = some ρ') : ∀ i ∈ tg.slots, ρ.free i = true := by
  cases tg with
  | one x i => exact allC (bindT_one h).2 allN
  | two x i y k => exact bindT_two' h fun a b h1 h2 => allC h1 (allC h2 allN)
theorem bindT_hown {tg : Tg} {d : PV} (h : bindT tg d ρ = some ρ') : ρ'.hown = ρ.hown := by
  cases tg with
  | one => rw [(bindT_one h).1]; rfl
  | two => exact bindT_two' h fun a b _ _ => rfl
theorem tab_slot {tg : Tg} {x : Str} {i : Nat} (h : tg.tab.lookup x = some i) : i ∈ tg.slots := List.mem_map.mpr ⟨_, mem_of_lookup h, rfl⟩
theorem names_tab {tg : Tg} {x : Str} (h : x ∈ tg.names) : ∃ i, tg.tab.lookup x = some i := by
  cases e : tg.tab.lookup x with
  | none => exact absurd h (tab_names e)
  | some i => exact ⟨i, rfl⟩
theorem slot_name {tg : Tg} {i : Nat} (h : i ∈ tg.slots) : ∃ x ∈ tg.names, (x, i) ∈ tg.tab := let ⟨⟨x, _⟩, hm, e⟩ := List.mem_map.mp h; ⟨x, List.mem_map.mpr ⟨_, hm, rfl⟩, e ▸ hm⟩
/-- a store of the frame's names -/
theorem Fst.stored {tg : Tg} {d : PV} (F : Frame env sc Δ s₀) (x : Fst env Δ s₀ O₀ ρ W s) (hb : bindT tg d ρ = some ρ') (hd : tg.slots.Nodup) (htab : ∀ p ∈ tg.tab, Δ.lookup p.1 = some p.2)
    {tk : Nat} (st : StIs env (W ++ (Mine.own env ++ O₀)) s.heap tg d h') :
    Fst env Δ s₀ O₀ ρ' W { s with heap := h', toks := tk } ∧ Gr env W s { s with heap := h', toks := tk } W := by
  have ko : ∀ b o, b ∉ Mine.own env → s.heap.get? b = some o → h'.get? b = some o := fun b o hb e => st.k b o (fun ha => hb ha.own) e
  have tabs : ∀ x i j, Δ.lookup x = some i → tg.tab.lookup x = some j → j = i := fun x i j h1 h2 => Option.some.inj ((htab _ (mem_of_lookup h2)).symm.trans h1)
  have off : ∀ x i, Δ.lookup x = some i → i ∉ tg.slots → x ∉ tg.names := fun x i hx hi hn => let ⟨k, hk⟩ := names_tab hn; hi (tabs x i k hx hk ▸ tab_slot hk)
  have mb : Mv (Mine.own env ++ O₀) (Mine.own env ++ O₀) s.heap h' := ⟨fun _ ha _ => ha, fun a o ha e => ko a o (fun h => ha (inL h)) e⟩
  have ma : Mv (W ++ (Mine.own env ++ O₀)) (W ++ (Mine.own env ++ O₀)) s.heap h' := ⟨fun _ ha _ => ha, fun a o ha e => mb.k a o (fun h => ha (inR h)) e⟩
  refine ⟨⟨x.kp.upd fun b o e0 e => ko b o (fun hm => nomatch (F.fresh b hm).symm.trans e0) e, st.i, fun y j pv h1 h2 => ?_, fun a ha => ?_, x.wnew, x.woff, fun j xs h1 y h2 => ?_, fun j xs h1 y h2 => ?_, ?_⟩, ⟨fun b o h1 _ e => ko b o h1 e, fun b h => .inl h⟩⟩
  · rcases Classical.em (j ∈ tg.slots) with hj | hj
    · obtain ⟨z, hn, hz⟩ := slot_name hj
      obtain ⟨k, hk⟩ := names_tab hn
      cases F.inj y z j h1 (htab _ hz)
      exact st.s.look hb hd (tabs y j k h1 hk ▸ hk) h2
    · obtain ⟨v, l, r⟩ := x.vars y j pv h1 (bindT_get hb hj h2)
      exact ⟨v, st.l y v (off y j h1 hj) l, r.mono' ma⟩
  · obtain ⟨o, e⟩ := x.alive a ha
    exact (Classical.em (a ∈ Mine.own env)).elim (st.i.alive a) fun hm => ⟨o, ko a o hm e⟩
  · have h1 := (bindT_own hb).symm.trans h1
    obtain ⟨a, vs, l, hw, ⟨o, n, p1, p2⟩, r⟩ := x.own j xs h1 y h2
    exact ⟨a, vs, st.l y _ (off y j h2 fun hj => free_own (bindT_free hb j hj) h1 rfl) l, hw, ⟨o, n, ko a o (fun h => x.woff a hw (inL h)) p1, p2⟩, r⟩
  · have h1 := (bindT_hown hb).symm.trans h1
    obtain ⟨a, dx, l, ts, lk, q⟩ := x.hown j xs h1 y h2
    exact ⟨a, dx, l, ts, st.l y _ (off y j h2 fun hj => free_hown (bindT_free hb j hj) h1 rfl) lk, q.ha, q.hd, q.hl, q.is.mono mb, q.off⟩
  · rw [bindT_own hb, bindT_hown hb]; exact x.one
end
/-- what must hold behind a statement -/
noncomputable def Post (env : Env) (Δ : De) (s₀ : Shared) (O₀ W : List Addr) (s : Shared) (out : Out) (Q : Flow → Shared → Prop) : Prop :=
  (out.2 = none → ∀ s' W', Fst env Δ s₀ O₀ out.1 W' s' → Gr env W s s' W' → Q .next s') ∧ ∀ pv, out.2 = some pv → ∀ u s', Kp s₀ s' → Rep O₀ s'.heap u pv → Q (.ret u) s'

section
variable {t : Stmt} {P : Stmt → Prop}
noncomputable def onReturn (t : Stmt) (k : Option Expr → Pos → Bool) : Bool := if h : t.ctorIdx = 3 then Stmt.Return.elim (motive_2 := fun _ => Bool) t h k else false
@[elab_as_elim] theorem onReturnE {k : Option Expr → Pos → Bool} (h : onReturn t k = true) (f : ∀ a b, k a b = true → P (.Return a b)) : P t := diteE h fun q h => Stmt.Return.elim (motive_2 := fun t => ∀ q, Stmt.Return.elim (motive_2 := fun _ => Bool) t q k = true → P t) t q (fun _ _ _ h => f _ _ h) q h
noncomputable def onAssign (t : Stmt) (k : List Expr → Expr → Pos → Bool) : Bool := if h : t.ctorIdx = 5 then Stmt.Assign.elim (motive_2 := fun _ => Bool) t h k else false
@[elab_as_elim] theorem onAssignE {k : List Expr → Expr → Pos → Bool} (h : onAssign t k = true) (f : ∀ a b c, k a b c = true → P (.Assign a b c)) : P t := diteE h fun q h => Stmt.Assign.elim (motive_2 := fun t => ∀ q, Stmt.Assign.elim (motive_2 := fun _ => Bool) t q k = true → P t) t q (fun _ _ _ _ h => f _ _ _ h) q h
noncomputable def onAug (t : Stmt) (k : Expr → Operator → Expr → Pos → Bool) : Bool := if h : t.ctorIdx = 7 then Stmt.AugAssign.elim (motive_2 := fun _ => Bool) t h k else false
@[elab_as_elim] theorem onAugE {k : Expr → Operator → Expr → Pos → Bool} (h : onAug t k = true) (f : ∀ a b c d, k a b c d = true → P (.AugAssign a b c d)) : P t := diteE h fun q h => Stmt.AugAssign.elim (motive_2 := fun t => ∀ q, Stmt.AugAssign.elim (motive_2 := fun _ => Bool) t q k = true → P t) t q (fun _ _ _ _ _ h => f _ _ _ _ h) q h
noncomputable def onFor (t : Stmt) (k : Expr → Expr → List Stmt → List Stmt → Pos → Bool) : Bool := if h : t.ctorIdx = 9 then Stmt.For.elim (motive_2 := fun _ => Bool) t h k else false
@[elab_as_elim] theorem onForE {k : Expr → Expr → List Stmt → List Stmt → Pos → Bool} (h : onFor t k = true) (f : ∀ a b c d e, k a b c d e = true → P (.For a b c d e)) : P t := diteE h fun q h => Stmt.For.elim (motive_2 := fun t => ∀ q, Stmt.For.elim (motive_2 := fun _ => Bool) t q k = true → P t) t q (fun _ _ _ _ _ _ h => f _ _ _ _ _ h) q h
noncomputable def onWhile (t : Stmt) (k : Expr → List Stmt → List Stmt → Pos → Bool) : Bool := if h : t.ctorIdx = 11 then Stmt.While.elim (motive_2 := fun _ => Bool) t h k else false
@[elab_as_elim] theorem onWhileE {k : Expr → List Stmt → List Stmt → Pos → Bool} (h : onWhile t k = true) (f : ∀ a b c d, k a b c d = true → P (.While a b c d)) : P t := diteE h fun q h => Stmt.While.elim (motive_2 := fun t => ∀ q, Stmt.While.elim (motive_2 := fun _ => Bool) t q k = true → P t) t q (fun _ _ _ _ _ h => f _ _ _ _ h) q h
noncomputable def onIf (t : Stmt) (k : Expr → List Stmt → List Stmt → Pos → Bool) : Bool := if h : t.ctorIdx = 12 then Stmt.If.elim (motive_2 := fun _ => Bool) t h k else false
@[elab_as_elim] theorem onIfE {k : Expr → List Stmt → List Stmt → Pos → Bool} (h : onIf t k = true) (f : ∀ a b c d, k a b c d = true → P (.If a b c d)) : P t := diteE h fun q h => Stmt.If.elim (motive_2 := fun t => ∀ q, Stmt.If.elim (motive_2 := fun _ => Bool) t q k = true → P t) t q (fun _ _ _ _ _ h => f _ _ _ _ h) q h
noncomputable def onExpr (t : Stmt) (k : Expr → Pos → Bool) : Bool := if h : t.ctorIdx = 24 then Stmt.Expr.elim (motive_2 := fun _ => Bool) t h k else false
@[elab_as_elim] theorem onExprE {k : Expr → Pos → Bool} (h : onExpr t k = true) (f : ∀ a b, k a b = true → P (.Expr a b)) : P t := diteE h fun q h => Stmt.Expr.elim (motive_2 := fun t => ∀ q, Stmt.Expr.elim (motive_2 := fun _ => Bool) t q k = true → P t) t q (fun _ _ _ h => f _ _ h) q h
end
noncomputable def isLC (t : Expr) : Bool := decide (t.ctorIdx = 8) || (decide (t.ctorIdx = 9) || decide (t.ctorIdx = 10))
noncomputable def isC (e : E) : Bool := decide (e.ctorIdx = 12) || decide (e.ctorIdx = 13)
noncomputable def isNew (e : E) : Bool := decide (e.ctorIdx = 20) || ((if h : e.ctorIdx = 19 then E.list.elim (motive_1 := fun _ => Bool) e h fun es => decide (es.ctorIdx = 0) else false) || (if h : e.ctorIdx = 10 then E.bi.elim (motive_1 := fun _ => Bool) e h fun b _ => isLR b true false else false))
noncomputable def notTup (e : Expr) : Bool := decide (e.ctorIdx ≠ 25)
/-- the right-hand sides of the swaps that are let through -/
noncomputable def swapRight (e : Expr) : Bool := decide (e.ctorIdx = 23) || decide (e.ctorIdx = 2)
/-- one name that a value is assigned to -/
noncomputable def asg1 (Δ : De) (i : Nat) (t : Stmt) (k : Expr → Bool) : Bool := onAssign t fun ts v _ => l1 ts fun a => onName a fun x _ => decide (Δ.lookup x = some i) && k v
@[elab_as_elim] theorem asg1E {Δ : De} {i : Nat} {t : Stmt} {k : Expr → Bool} {P : Stmt → Prop} (h : asg1 Δ i t k = true) (f : ∀ x p v pos, Δ.lookup x = some i → k v = true → P (.Assign [.Name x p] v pos)) : P t :=
  onAssignE h fun ts v pos h => l1E (P := fun ts => P (.Assign ts v pos)) h fun a h => onNameE (P := fun a => P (.Assign [a] v pos)) h fun x p h => f x p v pos (of_decide_eq_true (and1 h)) (and2 h)
/-- two names -/
noncomputable def asg2 (Δ : De) (i j : Nat) (t : Stmt) (k : Str → Pos → Str → Pos → Expr → Bool) : Bool := onAssign t fun ts v _ => l1 ts fun a => onTuple a fun es _ _ => l2 es fun a b => onName a fun x p => onName b fun y q =>
  decide (Δ.lookup x = some i ∧ Δ.lookup y = some j ∧ x ≠ y ∧ i ≠ j) && k x p y q v
@[elab_as_elim] theorem asg2E {Δ : De} {i j : Nat} {t : Stmt} {k : Str → Pos → Str → Pos → Expr → Bool} {P : Stmt → Prop} (h : asg2 Δ i j t k = true) (f : ∀ x p y q n r v pos, (Δ.lookup x = some i ∧ Δ.lookup y = some j ∧ x ≠ y ∧ i ≠ j) → k x p y q v = true → P (.Assign [.Tuple [.Name x p, .Name y q] n r] v pos)) : P t :=
  onAssignE h fun ts v pos h => l1E (P := fun ts => P (.Assign ts v pos)) h fun a h => onTupleE (P := fun a => P (.Assign [a] v pos)) h fun es n r h => l2E (P := fun es => P (.Assign [.Tuple es n r] v pos)) h fun a b h => onNameE (P := fun a => P (.Assign [.Tuple [a, b] n r] v pos)) h fun x p h => onNameE (P := fun b => P (.Assign [.Tuple [.Name x p, b] n r] v pos)) h fun y q h =>
    f x p y q n r v pos (of_decide_eq_true (and1 h)) (and2 h)
/-- a method of a name, called for itself -/
noncomputable def callM (Δ : De) (i : Nat) (nm : Str) (t : Stmt) (k : List Expr → Bool) : Bool := onExpr t fun c _ => onCall c fun g args kws pos => onAttribute g fun o name apos => onName o fun x _ => l0 kws (name == nm && (decide (Δ.lookup x = some i) && (!dbg x && (apos.endLine == pos.line && k args))))
@[elab_as_elim] theorem callME {Δ : De} {i : Nat} {nm : Str} {t : Stmt} {k : List Expr → Bool} {P : Stmt → Prop} (h : callM Δ i nm t k = true) (f : ∀ x p apos args pos pos', Δ.lookup x = some i → dbg x = false → (apos.endLine == pos.line) = true → k args = true → P (.Expr (.Call (.Attribute (.Name x p) nm apos) args [] pos) pos')) : P t :=
  onExprE h fun c pos' h => onCallE (P := fun c => P (.Expr c pos')) h fun g args kws pos h => onAttributeE (P := fun g => P (.Expr (.Call g args kws pos) pos')) h fun o name apos h => onNameE (P := fun o => P (.Expr (.Call (.Attribute o name apos) args kws pos) pos')) h fun x p h => l0E (P := fun kws => P (.Expr (.Call (.Attribute (.Name x p) name apos) args kws pos) pos')) h fun h =>
    beqE (P := fun name => P (.Expr (.Call (.Attribute (.Name x p) name apos) args [] pos) pos')) h fun h => f x p apos args pos pos' (of_decide_eq_true (and1 h)) (notB (and1 (and2 h))) (and1 (and2 (and2 h))) (and2 (and2 (and2 h)))
mutual
noncomputable def chkSt (cx : Cx) : S → Sc → De → Stmt → Bool
  | .assign i e, sc, Δ, t => asg1 Δ i t fun v => (isC e || !isLC v) && chk cx e sc Δ v
  | .assignOwn i e, sc, Δ, t => asg1 Δ i t fun v => !isLC v && (isNew e && chk cx e sc Δ v)
  | .assign2 i j e, sc, Δ, t => asg2 Δ i j t fun x _ _ _ v => (notTup v || decide (sc.lookup x = some .cell)) && (!isLC v && chk cx e sc Δ v)
  | .swap i j a b, sc, Δ, t => asg2 Δ i j t fun x p y q v => onTuple v fun es _ _ => l2 es fun va vb => onName va fun c pc => decide (sc.lookup x = some .local ∧ sc.lookup y = some .local ∧ q.line = p.line) && (!dbg c && (swapRight vb && (chk cx a sc Δ (.Name c pc) && chk cx b sc Δ vb)))
  | .aug i op e, sc, Δ, t => onAug t fun tt o v _ => onName tt fun x _ => o == op && (decide (Δ.lookup x = some i) && (!dbg x && chk cx e sc Δ v))
  | .sub i a b, sc, Δ, t => onAssign t fun ts v _ => l1 ts fun tt => onSubscript tt fun o sl _ => onName o fun x _ => decide (Δ.lookup x = some i) && (!dbg x && (!isLC v && (chk cx a sc Δ sl && chk cx b sc Δ v)))
  | .append i e, sc, Δ, t => callM Δ i (Str.ofString "append") t fun args => l1 args fun v => notStar v && chk cx e sc Δ v
  | .ret e, sc, Δ, t => onReturn t fun v _ => o1 v fun v => chk cx e sc Δ v
  | .ife c a b, sc, Δ, t => onIf t fun x y z _ => (tst c x && chk cx c sc Δ x) && (chkSL cx a sc Δ y && chkSL cx b sc Δ z)
  | .whil _ c b, sc, Δ, t => onWhile t fun x y z _ => l0 z ((tst c x && chk cx c sc Δ x) && chkSL cx b sc Δ y)
  | .for tg src b, sc, Δ, t => onFor t fun tt it y z _ => l0 z (tgIs tg tt && (chkS cx src sc Δ (isTwo tg) it && (decide (∀ p ∈ tg.tab, Δ.lookup p.1 = some p.2) && (decide tg.slots.Nodup && chkSL cx b sc Δ y))))
  | .freeze _, _, _, _ => false
  | .both i j e, sc, Δ, t => onAssign t fun ts v _ => l2 ts fun a b => onName a fun x _ => onName b fun y _ => decide (Δ.lookup x = some i ∧ Δ.lookup y = some j) && chk cx e sc Δ v
  | .hnew i, sc, Δ, t => asg1 Δ i t fun v => callN sc (Str.ofString "Headers") v fun args => args.isEmpty
  | .hadd i a b, sc, Δ, t => callM Δ i (Str.ofString "add_header") t fun args => l2 args fun va vb => notStar va && (notStar vb && (chk cx a sc Δ va && chk cx b sc Δ vb))
  | .hfreeze _, _, _, _ => false
noncomputable def chkSL (cx : Cx) : SL → Sc → De → List Stmt → Bool
  | .nil, _, _, ts => ts.isEmpty
  | .cons s r, sc, Δ, ts => cond (decide (s.ctorIdx = 11) || decide (s.ctorIdx = 15)) (chkSL cx r sc Δ ts) (List.casesOn (motive := fun _ => Bool) ts false fun t ts' => chkSt cx s sc Δ t && chkSL cx r sc Δ ts')
end
end Mine
end

-- Q16
section
open PySem PyProof.Rows PySem.Calls PySem.Spec PySem.W
set_option maxRecDepth 100000
set_option autoImplicit false
set_option genSizeOf false
set_option genInjectivity false
namespace Mine

section
variable {prog : Program} {w : World} {A : Around} {O : List Addr} {s s₂ : Shared} {env : Env} {sc : List (Str × NameKind)} {Δ : List (Str × Nat)} {ρ : PE} {target : Expr} {E : Value → Shared → Prop}
theorem comp_use {elt target iter : Expr} {ifs : List Expr} {scope : Scope} {pos py spos : Pos} {y : Str} {i : Nat} {tg : Tg} {ds ys : List PV} {f : PV → Option (Option PV)} {HP : Heap → Prop} {mg mb : Str → Option Value} (W : Wd HP mg mb) (hp : HP s.heap) (hh : A.handled = none)
    (hc : CompScope sc scope) (hT : tg.Is target) (htg : ∀ x ∈ tg.names, scope.names.lookup x = some .local ∨ scope.names.lookup x = some .cell) (hd : tg.slots.Nodup) (hsl : ∀ p ∈ Δ, p.2 ∉ tg.slots)
    (x : EnvOk sc Δ O env ρ s.heap) (feed : FeedOk prog w A target O s tg ds iter env) (hset : ∀ v, foldedSetIterable iter env v = pure v) (hlen : ds.length ≤ sizeLine) (hgo : compGo f ds = some ys) (body : CompBody prog w A HP Δ ρ scope tg ifs elt f)
    (hsw : swapsWith (.ListComp elt [⟨target, iter, ifs, 0⟩] scope pos) (some (.Name y py)) spos.line env = pure true) (hsto : Sto env y) {Q : Flow → Shared → Prop}
    (hQ : ∀ h' tk, StIs env O s.heap (.one y i) (.lst ys) h' → Q .next { s with heap := h', toks := tk }) :
    wpAny (model prog w) A (exec (.Assign [.Name y py] (.ListComp elt [⟨target, iter, ifs, 0⟩] scope pos) spos) env) Q E s := by
  rw [exec_Assign_Name_used _ _ _ _ hsw]
  refine wpAny_bind (wpAny_standAt (wpAny_bind ?_))
  show wpAny _ A (do let _ ← comprehension (.ListComp elt [⟨target, iter, ifs, 0⟩] scope pos) scope env _ (newList []) false (eval iter env) (some (assign (.Name y py) env))) _ _ s
  refine wpAny_bind (wpAny_mono (wpAny_comprehension_free (use := some (assign (.Name y py) env)) (Q := fun _ s' => Q .next s') rfl hset (closureFor_closL fun n hn => (x.clos n (hc.free n hn)).2) hc.kind (fun y hy e => e ▸ lookup_of_mem hc.nodup hy) (feed _ _ fun it s₂ hf => ?_)) (fun _ s' hq => wpAny_pure (wpAny_pure hq)) fun _ _ e => e)
  obtain ⟨I, fp, wr, P, Md, St, rfl, F⟩ := hf
  refine comp_core (RR := fun acc C => compPost (model prog w) A E (some (assign (.Name y py) env)) (fun _ s' => Q .next s') acc C) W hp hh hc hT htg hd hsl x F hlen hgo body fun D C h' tk m' hD hC hDC hn hr hk => ?_
  have hCown : C ∉ own env := x.envin.alive.new hC
  refine wpAny_assign_Name (store_look x.kind hsto (x.envin.heap hk) fun h₂ tk₂ a ha hs₂ i₂ hl₂ ho₂ => ⟨m', hn.sameBut hs₂ fun e => hCown (e ▸ (at_of (.head _) ha : At env [y] a).own), fun h₃ hs₃ => ?_⟩)
  have hat : At env [y] a := at_of (.head _) ha
  obtain ⟨⟨h0, t0, e0⟩, _⟩ := F.kp
  subst e0
  have ko : ∀ b ∈ own env, ∀ o, h₂.get? b = some o → h₃.get? b = some o := fun b hb o e => (hs₃.2 b fun e' => hCown (e' ▸ hb)).trans e
  exact hQ h₃ tk₂ ⟨i₂.but ko, fun b o hb e => (hs₃.2 b fun e' => by subst e'; exact nomatch hC.symm.trans e).trans ((hs₂.2 b fun e' => hb (e' ▸ hat)).trans (hk b o e)),
    ⟨.ref D, hl₂.but ko, hr.mono (fun a ha _ hm => ha (.tail _ hm)) fun b o hb e => (hs₃.2 b fun e' => hb (e' ▸ .head _)).trans ((hs₂.2 b fun e' => hb (.tail _ (x.sub _ (e' ▸ hat.own)))).trans e)⟩,
    fun z u hz l => (ho₂ z u (fun e => hz (e ▸ .head _)) (l.heap hk)).but ko⟩
end

/-- the Headers objects' making and filling -/
structure KOk (K : Ctx) : Prop where
  hcls : K.mg "Headers" = some (.ref 240)
  hnew : (K.Γ 27 []).isSome = true → ∀ (A : Around) (s : Shared) (pos : Pos), AOk K.n A → K.HP s.heap → ∀ (Q E : Value → Shared → Prop),
    (∀ x dx l s', Kp s s' → s.heap.get? x = none → s.heap.get? dx = none → s.heap.get? l = none → HdrIs [] s'.heap x [] dx l [] → Q (.ref x) s') → wpAny (model K.prog K.w) A (callWith pos (.ref 240) [] [] []) Q E s
  hadd : ∀ (k v : Str), (K.Γ 26 [.str k, .str v]).isSome = true → ∀ (A : Around) (O : List Addr) (s : Shared) (x dx l : Addr) (xs : List (Str × Str)) (ts : List Addr) (t u : Tok),
    room xs.length = true → AOk K.n A → K.HP s.heap → Alive O s.heap → HdrIs O s.heap x xs dx l ts → ∀ (Q E : Value → Shared → Prop),
    (∀ h' tk T, (∀ b o, b ≠ l → s.heap.get? b = some o → h'.get? b = some o) → s.heap.get? T = none → HdrIs O h' x (xs ++ [(k, v)]) dx l (ts ++ [T]) → Q .none { s with heap := h', toks := tk }) →
      wpAny (model K.prog K.w) A (call (.ref 237) [.ref x, .str k t, .str v u]) Q E s
/-- where a statement stands -/
structure SP where
  sc : Sc
  Δ : De
  ρ : PE
  A : Around
  O₀ : List Addr
  W : List Addr
  env : Env
  s₀ : Shared
  s : Shared
noncomputable abbrev SP.pt (p : SP) (s : Shared) : Pt := ⟨p.sc, p.Δ, p.ρ, p.A, p.W ++ (own p.env ++ p.O₀), p.env, s⟩
noncomputable abbrev SP.to (p : SP) (ρ : PE) (W : List Addr) (s : Shared) : SP := ⟨p.sc, p.Δ, ρ, p.A, p.O₀, W, p.env, p.s₀, s⟩
structure SFr (K : Ctx) (p : SP) : Prop where
  a : AOk K.n p.A
  h : K.HP p.s₀.heap
  F : Frame p.env p.sc p.Δ p.s₀
  x : Fst p.env p.Δ p.s₀ p.O₀ p.ρ p.W p.s
noncomputable def SOk (K : Ctx) (st : S) : Prop := ∀ (p : SP) (t : Stmt) (out : Out), SFr K p → chkSt K.cx st p.sc p.Δ t = true → ex K.Γ st p.ρ = some out → ∀ (Q : Flow → Shared → Prop) (E : Value → Shared → Prop), Post p.env p.Δ p.s₀ p.O₀ p.W p.s out Q → wpAny (model K.prog K.w) p.A (exec t p.env) Q E p.s
noncomputable def SLOk (K : Ctx) (b : SL) : Prop := ∀ (p : SP) (ts : List Stmt) (out : Out), SFr K p → chkSL K.cx b p.sc p.Δ ts = true → exs K.Γ b p.ρ = some out → ∀ (Q : Flow → Shared → Prop) (E : Value → Shared → Prop), Post p.env p.Δ p.s₀ p.O₀ p.W p.s out Q → wpAny (model K.prog K.w) p.A (execs ts p.env) Q E p.s
section
variable {K : Ctx} {p : SP}
theorem SFr.hp (f : SFr K p) : K.HP p.s.heap := K.C.wd.mono _ _ f.x.kp.keep f.h
theorem SFr.fr (f : SFr K p) : Fr K (p.pt p.s) := ⟨f.a, f.hp, f.x.okEnv f.F⟩
theorem SFr.kp (f : SFr K p) {s' : Shared} (k : Kp p.s s') : SFr K (p.to p.ρ p.W s') := ⟨f.a, f.h, f.F, f.x.step k⟩
theorem SFr.own {b : Addr} (h : b ∈ own p.env) : b ∈ p.W ++ (own p.env ++ p.O₀) := inR (inL h)
theorem Post.kp {s₁ : Shared} {out : Out} {Q : Flow → Shared → Prop} (h : Post p.env p.Δ p.s₀ p.O₀ p.W p.s out Q) (k : Kp p.s s₁) : Post p.env p.Δ p.s₀ p.O₀ p.W s₁ out Q := ⟨fun e s' W' x g => h.1 e s' W' x ((Gr.kp k).trans g x.woff), h.2⟩
/-- the frame's names are set -/
theorem SFr.stored {tg : Tg} {d : PV} {ρ' : PE} {h' : Heap} {tk : Nat} {Q : Flow → Shared → Prop} (f : SFr K p) (hb : bindT tg d p.ρ = some ρ') (hd : tg.slots.Nodup) (htab : ∀ q ∈ tg.tab, p.Δ.lookup q.1 = some q.2)
    (st : StIs p.env (p.W ++ (Mine.own p.env ++ p.O₀)) p.s.heap tg d h') (hQ : Post p.env p.Δ p.s₀ p.O₀ p.W p.s (ρ', none) Q) : Q .next { p.s with heap := h', toks := tk } :=
  let ⟨x, g⟩ := f.x.stored f.F hb hd htab st; hQ.1 rfl _ _ x g
theorem notLC_swaps {v : Expr} {t : Option Expr} {line : Nat} {env : Env} (h : isLC v = false) : swapsWith v t line env = pure false := by cases v <;> first | rfl | exact (Bool.false_ne_true h.symm).elim
theorem notTup_swapped {es : List Expr} {k : Nat} {p : Pos} {v : Expr} {env : Env} (h : notTup v = true) : swappedStores [.Tuple es k p] v env = pure none := by cases v <;> first | rfl | exact absurd rfl (of_decide_eq_true h)
theorem name_swapped {x : Str} {p : Pos} {v : Expr} {env : Env} : swappedStores [.Name x p] v env = pure none := rfl
/-- a target takes a value -/
theorem assign_ok {ρ' : PE} {tg : Tg} {target v : Expr} {d : PV} {pos : Pos} (f : SFr K p) (he : Ok K.prog K.w p.A (p.W ++ (own p.env ++ p.O₀)) p.s (eval v p.env) d) (hT : tg.Is target) (hb : bindT tg d p.ρ = some ρ') (hd : tg.slots.Nodup) (htab : ∀ q ∈ tg.tab, p.Δ.lookup q.1 = some q.2)
    (hs : swapsWithSole [target] v pos.line p.env = pure false) (hw : swappedStores [target] v p.env = pure none) (hstar : assignEach [target] p.env = [(false, assign target p.env)]) {Q : Flow → Shared → Prop} {E : Value → Shared → Prop} (hQ : Post p.env p.Δ p.s₀ p.O₀ p.W p.s (ρ', none) Q) :
    wpAny (model K.prog K.w) p.A (exec (.Assign [target] v pos) p.env) Q E p.s := by
  refine wpAny_Assign_stores (he _ _ fun u s₁ k1 r1 => ?_) hs hw
  rw [hstar]
  exact tg_assign hT f.a.handled f.F.kind (fun y hy => let ⟨i, hi⟩ := names_tab hy; f.F.sto y i (htab _ (mem_of_lookup hi))) (fun _ h => SFr.own h) (f.kp k1).x.envin (Bound.ofRep r1) hb fun h' tk st => (f.kp k1).stored hb hd htab st (hQ.kp k1)
end
end Mine
end

-- Q17
section
open PySem PyProof.Rows PySem.Calls PySem.Spec PySem.W
set_option maxRecDepth 100000
set_option autoImplicit false
namespace Mine
section
variable {K : Ctx} {p : SP}
theorem nodup1 {x : Str} {i : Nat} : (Tg.one x i).slots.Nodup := List.nodup_cons.mpr ⟨List.not_mem_nil, List.nodup_nil⟩
theorem nodup2 {x y : Str} {i j : Nat} (h : i ≠ j) : (Tg.two x i y j).slots.Nodup := List.nodup_cons.mpr ⟨fun hm => h (List.mem_singleton.mp hm), nodup1 (x := x)⟩
theorem bt1 {x : Str} {i : Nat} {d : PV} {ρ : PE} (h : ρ.free i = true) : bindT (.one x i) d ρ = some (ρ.set i d) := if_pos h
theorem sole {t v : Expr} {line : Nat} {env : Env} {b : Sem Bool} (h : swapsWith v (some t) line env = b) : swapsWithSole [t] v line env = b := h
theorem swaps_comp (e : Expr) (gs : List Comprehension) (sc : Scope) (cp : Pos) (x : Str) (q : Pos) (line : Nat) (env : Env) : ∃ b : Bool, swapsWith (.ListComp e gs sc cp) (some (.Name x q)) line env = pure b :=
  ⟨_, (rfl : swapsWith (.ListComp e gs sc cp) (some (.Name x q)) line env = pure (env.blockKind == .function && env.kindOf x == some .local && q.line == (Expr.ListComp e gs sc cp).pos.line && !(sc.names.any fun (n, k) => n == x && (k == .local || k == .cell))))⟩
/-- a name takes a comprehension's list -/
theorem comp_assign {i : Nat} {y : Str} {q pos pos' : Pos} {e tt it : Expr} {ifs : List Expr} {scope : Scope} {tg : Tg} {src : Src} {items ys : List PV} {g : PV → Option (Option PV)} (f : SFr K p) (hy : p.Δ.lookup y = some i) (hf : p.ρ.free i = true)
    (c : CompIs K (p.pt p.s) tg src tt it scope items) (hgo : compGo g items = some ys) (body : CompBody K.prog K.w p.A K.HP p.Δ p.ρ scope tg ifs e g) {Q : Flow → Shared → Prop} {E : Value → Shared → Prop} (hQ : Post p.env p.Δ p.s₀ p.O₀ p.W p.s (p.ρ.set i (.lst ys), none) Q) :
    wpAny (model K.prog K.w) p.A (exec (.Assign [.Name y q] (.ListComp e [⟨tt, it, ifs, 0⟩] scope pos') pos) p.env) Q E p.s := by
  have hb : bindT (.one y i) (.lst ys) p.ρ = some (p.ρ.set i (.lst ys)) := if_pos hf
  have htab : ∀ q ∈ (Tg.one y i).tab, p.Δ.lookup q.1 = some q.2 := allC hy allN
  obtain ⟨b, hsw⟩ := swaps_comp e [⟨tt, it, ifs, 0⟩] scope pos' y q pos.line p.env
  cases b with
  | true => exact comp_use (i := i) K.C.wd f.hp f.a.handled c.s.c c.t c.s.names c.s.nodup c.s.off f.fr.x (c.feed f.fr) c.set c.len hgo body hsw (f.F.sto y i hy) fun h' tk st => f.stored hb nodup1 htab st hQ
  | false => exact assign_ok f (comp_ok K.C.wd f.hp f.a.handled c.s.c c.t c.s.names c.s.nodup c.s.off f.fr.x (c.feed f.fr) c.set c.len hgo body) (tg := .one y i) ⟨q, rfl⟩ hb nodup1 htab hsw name_swapped rfl hQ
theorem assign_st {i : Nat} {e : E} : SOk K (.assign i e) := fun p t out f hc he => asg1E hc fun y q v pos hy hc => bindE he fun d hd he => ifE he fun hf he Q E hQ => by
  cases Option.some.inj he
  rcases Bool.or_eq_true_iff.mp (and1 hc) with h | h
  · rcases Bool.or_eq_true_iff.mp h with h | h
    · refine Mine.E.comp.elim (motive_1 := fun e => chk K.cx e p.sc p.Δ v = true → ev K.Γ e p.ρ = some d → _) e (of_decide_eq_true h) (fun elt tg src hc hd => ?_) (and2 hc) hd
      exact compE (p := p.pt p.s) (P := fun v d => Post p.env p.Δ p.s₀ p.O₀ p.W p.s (p.ρ.set i d, none) Q → wpAny (model K.prog K.w) p.A (exec (.Assign [.Name y q] v pos) p.env) Q E p.s) (all_Src src) hc hd (fun e' tt it scope pos' items ys c h4 hys hQ => comp_assign f hy hf c hys (comp_body f.a (all_E elt).1 h4) hQ) hQ
    · refine Mine.E.compIf.elim (motive_1 := fun e => chk K.cx e p.sc p.Δ v = true → ev K.Γ e p.ρ = some d → _) e (of_decide_eq_true h) (fun elt tg src cd hc hd => ?_) (and2 hc) hd
      exact compIfE (p := p.pt p.s) (P := fun v d => Post p.env p.Δ p.s₀ p.O₀ p.W p.s (p.ρ.set i d, none) Q → wpAny (model K.prog K.w) p.A (exec (.Assign [.Name y q] v pos) p.env) Q E p.s) (all_Src src) hc hd (fun e' tt it d scope pos' items ys c h4 h5 hys hQ => comp_assign f hy hf c hys (compIf_body f.a (all_E elt).1 (all_E cd).2 h4 h5) hQ) hQ
  · exact assign_ok f ((all_E e).1 (p.pt p.s) v d f.fr (and2 hc) hd) (tg := .one y i) ⟨q, rfl⟩ (if_pos hf) nodup1 (allC hy allN) (sole (notLC_swaps (notB h))) name_swapped rfl hQ
noncomputable def nm2 (a b : Option Str) : List Str := [a, b].filterMap id
theorem one_less {a b : Option Str} {c1 c2 X : Bool} {Y : Sem (Option (List Str))} (h : a = none) : (if c1 = true then pure none else if c2 = true then pure none else if ((nm2 a b).length != 2 || X) = true then pure none else Y) = (pure none : Sem (Option (List Str))) := by
  cases h
  cases b <;> cases c1 <;> cases c2 <;> rfl
theorem cell_swapped {x y : Str} {p q r : Pos} {k : Nat} {v : Expr} {env : Env} (h : (env.kindOf x == some NameKind.local) = false) : swappedStores [.Tuple [.Name x p, .Name y q] k r] v env = pure none := by
  refine (Classical.em (v.ctorIdx = 25)).elim (fun e => ?_) fun q => notTup_swapped (decide_eq_true q)
  have a : (if (env.kindOf x == some NameKind.local && p.line == p.line) = true then some x else none) = none := by rw [h]; rfl
  exact Expr.Tuple.elim (motive_1 := fun v => swappedStores [.Tuple [.Name x p, .Name y q] k r] v env = pure none) v e fun vs k' p' => one_less (b := if (env.kindOf y == some NameKind.local && q.line == p.line) = true then some y else none) a
theorem assign2_st {i j : Nat} {e : E} : SOk K (.assign2 i j e) := fun p t out f hc he => asg2E hc fun y q z q' n r v pos hn hc => bindE he fun d hd he => bindE he fun xs hxs he => by
  refine arg2E (P := fun xs => d.t? = some xs → _) he (fun a b he hxs => t?E (P := fun d => ev K.Γ e p.ρ = some d → _) hxs (fun hd => ifE he fun hf he Q E hQ => ?_) hd) hxs
  cases Option.some.inj he
  exact assign_ok f ((all_E e).1 (p.pt p.s) v _ f.fr (and2 (and2 hc)) hd) (tg := .two y i z j) ⟨hn.2.2.1, _, _, _, _, rfl⟩ (if_pos hf) (nodup2 hn.2.2.2) (allC hn.1 (allC hn.2.1 allN)) (sole (notLC_swaps (notB (and1 (and2 hc)))))
    ((Bool.or_eq_true_iff.mp (and1 hc)).elim notTup_swapped fun h => cell_swapped ((f.F.clos y (.inl (of_decide_eq_true h))).1.elim (fun h => by rw [h]; rfl) fun h => by rw [h]; rfl)) rfl hQ
theorem free_set {ρ : PE} {i j : Nat} {d : PV} : (ρ.set i d).free j = ρ.free j := rfl
theorem both_st {i j : Nat} {e : E} : SOk K (.both i j e) := fun p t out f hc he => onAssignE hc fun ts v pos hc => l2E (P := fun ts => ∀ (Q : Flow → Shared → Prop) (E : Value → Shared → Prop), Post p.env p.Δ p.s₀ p.O₀ p.W p.s out Q → wpAny (model K.prog K.w) p.A (exec (.Assign ts v pos) p.env) Q E p.s) hc fun a b hc =>
  onNameE (P := fun a => ∀ (Q : Flow → Shared → Prop) (E : Value → Shared → Prop), Post p.env p.Δ p.s₀ p.O₀ p.W p.s out Q → wpAny (model K.prog K.w) p.A (exec (.Assign [a, b] v pos) p.env) Q E p.s) hc fun y q hc => onNameE (P := fun b => ∀ (Q : Flow → Shared → Prop) (E : Value → Shared → Prop), Post p.env p.Δ p.s₀ p.O₀ p.W p.s out Q → wpAny (model K.prog K.w) p.A (exec (.Assign [.Name y q, b] v pos) p.env) Q E p.s) hc fun z q' hc =>
  bindE he fun d hd he => ifE he fun hf he Q E hQ => by
  cases Option.some.inj he
  obtain ⟨h1, h2⟩ := of_decide_eq_true (and1 hc)
  refine wpAny_Assign_two ((all_E e).1 (p.pt p.s) v d f.fr (and2 hc) hd _ _ fun u s₁ k1 r1 => ?_)
  have x1 := f.x.step k1
  refine wpAny_assign_Name (store_one (i := i) f.F.kind (f.F.sto y i h1) (fun _ h => SFr.own h) x1.envin r1 fun h' tk st => ?_)
  obtain ⟨x2, g2⟩ := x1.stored (tk := tk) f.F (bt1 (and1 hf)) nodup1 (allC h1 allN) st
  refine wpAny_assign_Name (store_one (i := j) f.F.kind (f.F.sto z j h2) (fun _ h => SFr.own h) x2.envin (r1.mono' (st.mv fun _ h => SFr.own h)) fun h'' tk' st' => ?_)
  obtain ⟨x3, g3⟩ := x2.stored (tk := tk') f.F (bt1 (ρ := p.ρ.set i d) (and2 hf)) nodup1 (allC h2 allN) st'
  exact hQ.1 rfl _ _ x3 ((Gr.kp k1).trans (g2.trans g3 f.x.woff) f.x.woff)
theorem aug_st {i : Nat} {op : Operator} {e : E} : SOk K (.aug i op e) := fun p t out f hc he => onAugE hc fun tt o v pos hc => onNameE (P := fun tt => ∀ (Q : Flow → Shared → Prop) (E : Value → Shared → Prop), Post p.env p.Δ p.s₀ p.O₀ p.W p.s out Q → wpAny (model K.prog K.w) p.A (exec (.AugAssign tt o v pos) p.env) Q E p.s) hc fun y q hc =>
  beqE (P := fun o => ∀ (Q : Flow → Shared → Prop) (E : Value → Shared → Prop), Post p.env p.Δ p.s₀ p.O₀ p.W p.s out Q → wpAny (model K.prog K.w) p.A (exec (.AugAssign (.Name y q) o v pos) p.env) Q E p.s) hc fun hc => bindE he fun a ha he => bindE he fun b hb he Q E hQ => by
  have h1 : p.Δ.lookup y = some i := of_decide_eq_true (and1 hc)
  obtain ⟨u, lu, ru⟩ := f.x.vars y i a h1 ha
  refine wpAny_AugAssign_Name (load_look f.F.kind (notB (and1 (and2 hc))) lu ((all_E e).1 (p.pt p.s) v b f.fr (and2 (and2 hc)) hb _ _ fun u2 s₁ k1 r1 => ?_))
  have fin : ∀ (c : Int) (tk : Tok) (k : Nat), put i (.int c) p.ρ = some out → wpAny (model K.prog K.w) p.A (storeName p.env y (.int c tk)) (fun _ => Q .next) E { s₁ with toks := k } := fun c tk k he => ifE he fun hf he => by
    cases Option.some.inj he
    have k2 := k1.trans (Kp.toks s₁ k)
    exact store_one (i := i) f.F.kind (f.F.sto y i h1) (fun _ h => SFr.own h) (f.kp k2).x.envin (.int _ _) fun h' tk st => (f.kp k2).stored (bt1 hf) nodup1 (allC h1 allN) st (hQ.kp k2)
  refine (ru.keeps k1).ints2 (P := fun u u2 => wpAny _ _ (inplaceOp op u u2) _ _ _) r1 he fun m n t t' he => ?_
  cases op with
  | Add => exact AutoIntOps.iadd_0 (fin _ _ _ he)
  | Sub => exact AutoIntOps.isub_0 (fin _ _ _ he)
  | _ => exact none_some he
theorem ret_st {e : E} : SOk K (.ret e) := fun p t out f hc he => onReturnE hc fun v pos hc => o1E (P := fun v => ∀ (Q : Flow → Shared → Prop) (E : Value → Shared → Prop), Post p.env p.Δ p.s₀ p.O₀ p.W p.s out Q → wpAny (model K.prog K.w) p.A (exec (.Return v pos) p.env) Q E p.s) hc fun v hc => bindE he fun d hd he Q E hQ => by
  cases Option.some.inj he
  exact wpAny_Return_some ((all_E e).1 (p.pt p.s) v d f.fr hc hd _ _ fun u s₁ k1 r1 => hQ.2 d rfl u s₁ (f.x.kp.trans k1) (r1.mono (fun a ha _ h => ha (inR (inR h))) fun _ _ _ e => e))
theorem ife_st {c : E} {a b : SL} (ha : SLOk K a) (hb : SLOk K b) : SOk K (.ife c a b) := fun p t out f hc he => onIfE hc fun x y z pos hc => bindE he fun d hd he Q E hQ =>
  wpAny_If ((all_E c).2 (p.pt p.s) x d f.fr (and1 hc) hd _ _ fun s₁ k1 => by
    cases d with
    | true => exact ha (p.to p.ρ p.W s₁) y out (f.kp k1) (and1 (and2 hc)) he _ _ (hQ.kp k1)
    | false => exact hb (p.to p.ρ p.W s₁) z out (f.kp k1) (and2 (and2 hc)) he _ _ (hQ.kp k1))
end
end Mine
end

-- Q18
section
open PySem PyProof.Rows PySem.Calls PySem.Spec PySem.W
set_option maxRecDepth 100000
set_option autoImplicit false
namespace Mine
section
variable {env : Env} {sc : Sc} {Δ : De} {s₀ s s' s'' : Shared} {O₀ W W' W'' : List Addr} {ρ ρ' : PE} {h₁ h' : Heap}
theorem get_vals (h : ρ'.vals = ρ.vals) (i : Nat) : ρ'.get i = ρ.get i := congrArg (fun l => (l[i]?).bind fun v => v) h
/-- only the owned objects change -/
theorem Fst.mut (x : Fst env Δ s₀ O₀ ρ W s) {tk : Nat} (hk : ∀ b o, b ∉ W → s.heap.get? b = some o → h'.get? b = some o) (hal : Alive W h') (hv : ρ'.vals = ρ.vals)
    (hown : OwnAt env h' Δ W ρ'.own) (hhown : HownAt env h' Δ W (Mine.own env ++ O₀) ρ'.hown) (hone : ρ'.own = none ∨ ρ'.hown = none) : Fst env Δ s₀ O₀ ρ' W { s with heap := h', toks := tk } ∧ Gr env W s { s with heap := h', toks := tk } W :=
  have off : ∀ b ∈ Mine.own env ++ O₀, b ∉ W := fun b hb hw => x.woff b hw hb
  have ko : ∀ b ∈ Mine.own env, ∀ o, s.heap.get? b = some o → h'.get? b = some o := fun b hb o e => hk b o (off b (inL hb)) e
  ⟨⟨x.kp.upd fun b o e0 e => hk b o (fun hw => nomatch (x.wnew b hw).symm.trans e0) e, x.envin.but ko, fun y i pv h1 h2 => x.vars.mv ko ⟨fun _ ha _ => ha, fun a o ha e => hk a o (fun h => ha (inL h)) e⟩ y i pv h1 ((get_vals hv i).symm.trans h2),
    fun a ha => inE ha (hal a) fun h => let ⟨o, e⟩ := x.alive a (inR h); ⟨o, hk a o (off a (inR h)) e⟩, x.wnew, x.woff, hown, hhown, hone⟩, ⟨fun b o _ h2 e => hk b o h2 e, fun _ h => .inl h⟩⟩
theorem PE.delE {i j : Nat} {u : PV} {P : Prop} (h : (ρ.del i).get j = some u) (k : i ≠ j → ρ.get j = some u → P) : P := by
  refine bindE h fun w hw hu => ?_
  have hw := (List.getElem?_set ..).symm.trans hw
  by_cases hij : i = j
  · rw [if_pos hij] at hw
    exact ifE hw fun _ hw => nomatch (Option.some.inj hw).trans hu
  · rw [if_neg hij] at hw
    exact k hij (by show (ρ.vals[j]?).bind _ = _; rw [hw]; exact hu)
theorem no_own {W : List Addr} {o : Option (Nat × List Int)} (e : o = none) : OwnAt env h' Δ W o := fun _ _ q => nomatch e.symm.trans q
theorem no_hown {W B : List Addr} {o : Option (Nat × List (Str × Str))} (e : o = none) : HownAt env h' Δ W B o := fun _ _ q => nomatch e.symm.trans q
/-- what was owned becomes a value like others -/
theorem Fst.froze {i : Nat} {d : PV} (x : Fst env Δ s₀ O₀ ρ W s) (hv : ρ'.vals = (ρ.set i d).vals) (ho : ρ'.own = none) (hh : ρ'.hown = none) (hd : ∀ y, Δ.lookup y = some i → ∃ v, Look env s.heap y v ∧ Rep (Mine.own env ++ O₀) s.heap v d) : Fst env Δ s₀ O₀ ρ' [] s ∧ Gr env W s s [] :=
  ⟨⟨x.kp, x.envin, fun y k pv h1 h2 => PE.setE (P := fun pv => ∃ v, Look env s.heap y v ∧ Rep (Mine.own env ++ O₀) s.heap v pv) ((get_vals hv k).symm.trans h2) (fun e => hd y (e ▸ h1)) fun _ h3 => let ⟨v, l, r⟩ := x.vars y k pv h1 h3; ⟨v, l, r.mono (fun a ha _ hm => ha (inR hm)) fun _ _ _ e => e⟩,
    fun a ha => x.alive a (inR ha), allN, allN, no_own ho, no_hown hh, .inl ho⟩, ⟨fun b o _ _ e => e, allN⟩⟩
theorem Fst.freeze {i : Nat} {out : Out} {Γ : Nat → List PV → Option PV} (x : Fst env Δ s₀ O₀ ρ W s) (h : ex Γ (.freeze i) ρ = some out) : ∃ ρ', out = (ρ', none) ∧ Fst env Δ s₀ O₀ ρ' [] s ∧ Gr env W s s [] :=
  bindE h fun o ho h => ifE h fun hj h => ⟨_, (Option.some.inj h).symm, x.froze (i := i) (d := .lst (o.2.map .int)) rfl rfl (Option.isNone_iff_eq_none.mp hj.2) fun y hy => let ⟨a, _, l, hw, hp, hi⟩ := x.own i o.2 (hj.1 ▸ ho) y hy; ⟨.ref a, l, .lst (x.woff a hw) hp.isList (RepL.ofInts hi)⟩⟩
theorem Fst.hfreeze {i : Nat} {out : Out} {Γ : Nat → List PV → Option PV} (x : Fst env Δ s₀ O₀ ρ W s) (h : ex Γ (.hfreeze i) ρ = some out) : ∃ ρ', out = (ρ', none) ∧ Fst env Δ s₀ O₀ ρ' [] s ∧ Gr env W s s [] :=
  bindE h fun o ho h => ifE h fun hj h => ⟨_, (Option.some.inj h).symm, x.froze (i := i) (d := .hdr o.2) rfl (Option.isNone_iff_eq_none.mp hj.2) rfl fun y hy => let ⟨a, _, _, _, l, q⟩ := x.hown i o.2 (hj.1 ▸ ho) y hy; ⟨.ref a, l, .hdr q.is⟩⟩
/-- a name takes a new owned object -/
theorem Fst.adopt {i : Nat} {y : Str} (F : Frame env sc Δ s₀) (x : Fst env Δ s₀ O₀ ρ W s) (hy : Δ.lookup y = some i) {tk : Nat} (k1 : ∀ b o, s.heap.get? b = some o → h₁.get? b = some o) (hW : ∀ b ∈ W', s.heap.get? b = none) (hal : Alive W' h₁)
    (i' : EnvIn env h') (hk : ∀ b o, ¬ At env [y] b → h₁.get? b = some o → h'.get? b = some o) (hl : ∀ z u, z ≠ y → Look env h₁ z u → Look env h' z u) (hv : ρ'.vals = (ρ.del i).vals)
    (hown : OwnAt env h' Δ W' ρ'.own) (hhown : HownAt env h' Δ W' (Mine.own env ++ O₀) ρ'.hown) (hone : ρ'.own = none ∨ ρ'.hown = none) : Fst env Δ s₀ O₀ ρ' W' { s with heap := h', toks := tk } ∧ Gr env W s { s with heap := h', toks := tk } W' :=
  have kk : ∀ b o, b ∉ Mine.own env → s.heap.get? b = some o → h'.get? b = some o := fun b o hb e => hk b o (fun ha => hb ha.own) (k1 b o e)
  have woff : ∀ b ∈ W', b ∉ Mine.own env ++ O₀ := fun b hb hm => let ⟨_, e⟩ := x.aliveAll b (inR hm); nomatch (hW b hb).symm.trans e
  ⟨⟨x.kp.upd fun b o e0 e => kk b o (fun hm => nomatch (F.fresh b hm).symm.trans e0) e, i', fun z j pv h1 h2 => PE.delE ((get_vals hv j).symm.trans h2) fun hij h3 =>
      let ⟨v, l, r⟩ := x.vars z j pv h1 h3
      ⟨v, hl z v (fun e => hij (Option.some.inj (hy.symm.trans (e ▸ h1)))) (l.heap k1), r.mono (fun b hb ⟨_, e⟩ hm => inE hm (fun hm => nomatch (hW b hm).symm.trans e) fun hm => hb (inR hm)) fun b o hb e => kk b o (fun hm => hb (inR (inL hm))) e⟩,
    fun b hb => inE hb (fun h => let ⟨o, e⟩ := hal b h; ⟨o, hk b o (fun ha => woff b h (inL ha.own)) e⟩) fun h => let ⟨o, e⟩ := x.alive b (inR h); (Classical.em (b ∈ Mine.own env)).elim (i'.alive b) fun hm => ⟨o, kk b o hm e⟩,
    fun b hb => x.kp.none (hW b hb), woff, hown, hhown, hone⟩, ⟨fun b o h1 _ e => kk b o h1 e, fun b hb => .inr (hW b hb)⟩⟩
/-- what is owned belongs to this name alone -/
theorem own_one {i : Nat} {y : Str} {W : List Addr} {l : List Int} {a : Addr} {vs : List Value} (F : Frame env sc Δ s₀) (hy : Δ.lookup y = some i) (lk : Look env h' y (.ref a)) (hw : a ∈ W) (hp : PlainL h' a vs.toArray) (hi : IntsAre vs l) : OwnAt env h' Δ W (some (i, l)) := fun j xs e z hz => by
  cases e
  cases F.inj z y i hz hy
  exact ⟨a, vs, lk, hw, hp, hi⟩
theorem hown_one {i : Nat} {y : Str} {W B : List Addr} {l : List (Str × Str)} {a dx la : Addr} {ts : List Addr} (F : Frame env sc Δ s₀) (hy : Δ.lookup y = some i) (lk : Look env h' y (.ref a)) (q : HdrAt h' W B l a dx la ts) : HownAt env h' Δ W B (some (i, l)) := fun j xs e z hz => by
  cases e
  cases F.inj z y i hz hy
  exact ⟨a, dx, la, ts, lk, q⟩
theorem IntsAre.set' {vs : List Value} {xs : List Int} (h : IntsAre vs xs) : ∀ (k : Nat) (c : Int) (t : Tok), IntsAre (vs.set k (.int c t)) (xs.set k c) := by
  induction h with
  | nil => exact fun _ _ _ => .nil
  | cons n t' h ih => exact fun k c t => match k with
    | 0 => .cons c t h
    | k + 1 => .cons n t' (ih k c t)
theorem IntsAre.push' {vs : List Value} {xs : List Int} (h : IntsAre vs xs) (c : Int) (t : Tok) : IntsAre (vs ++ [.int c t]) (xs ++ [c]) := by
  induction h with
  | nil => exact .cons c t .nil
  | cons n t' h ih => exact .cons n t' ih
theorem IntsAre.len {vs : List Value} {xs : List Int} (h : IntsAre vs xs) : vs.length = xs.length := by
  induction h with
  | nil => rfl
  | cons n t' h ih => exact congrArg (· + 1) ih
end

section
variable {K : Ctx} {p : SP}
theorem set_plain {A : Around} {E : Value → Shared → Prop} {s : Shared} {l : Addr} {items : Array Value} {k : Int} {t : Tok} {v : Value} {Q : Unit → Shared → Prop} (hl : PlainL s.heap l items)
    (h0 : 0 ≤ k) (hfit : k < 2 ^ 63) (hj : k.toNat < items.size)
    (hQ : ∀ h', PlainL h' l (items.setIfInBounds k.toNat v) → Heap.SameBut l s.heap h' → Q () { s with heap := h' }) :
    wpAny (model K.prog K.w) A (setItem (.ref l) (.int k t) v) Q E s := by
  obtain ⟨o, ne, ho, hc, hdn, hd⟩ := id hl
  have hT := hl.isList.typeIs (s := s)
  unfold setItem
  try with_reducible refine wpAny_holding ?_
  first | refine wpAny_bind (wpAny_pure ?_) | skip
  refine wpAny_bind (wpAny_sequenceKey hT (by decide) ?_)
  refine wpAny_bind (wpAny_callSpecial?_slot (name := Str.ofString "__setitem__") hT slot_list_setitem
    (wpAny_call_entry slot_list_setitem hT entry_list_setitem ?_ (args_list_setitem _ _ _)))
  show wpAny _ _ (Builtin.List.listSubscript? (.int k t) >>= _) _ _ s
  refine wpAny_bind (wpAny_listSubscript_int (fitsIndex_of h0 hfit) ?_)
  obtain ⟨j, rfl⟩ := Int.eq_ofNat_of_zero_le h0
  show wpAny _ _ ((seqItemAt l j >>= fun r => pure (r.map (j, ·))) >>= _) _ _ s
  refine wpAny_bind (wpAny_bind (wpAny_seqItemAt ho hd (wpAny_pure ?_)))
  rw [show items[j]? = some items[j] from Array.getElem?_eq_getElem hj]
  show wpAny _ _ (setSeqItemAt l j v >>= _) _ _ s
  obtain ⟨n', hd'⟩ := Obj.data_mapSeq hd (·.setIfInBounds j v)
  have hfin : PlainL (s.heap.update l (Obj.mapSeq (·.setIfInBounds j v))) l (items.setIfInBounds j v) := by
    refine ⟨_, n', Heap.get?_update_self _ ho (Obj.isFreed_of_seq hd'), (Obj.cls_mapSeq ..).trans hc, ?_, hd'⟩
    obtain ⟨c, d, dt, sl⟩ := o
    subst hd
    exact hdn
  refine wpAny_bind (wpAny_setSeqItemAt ho hd ?_)
  first
    | exact wpAny_bind (wpAny_pure (wpAny_pure ⟨.none, rfl, wpAny_pure (hQ _ hfin (Heap.SameBut.update ..))⟩))
    | exact wpAny_pure ⟨.none, rfl, wpAny_pure (hQ _ hfin (Heap.SameBut.update ..))⟩

theorem new_of {e : E} (hn : isNew e = true) {q : Pt} {v : Expr} {d : PV} (f : Fr K q) (hc : chk K.cx e q.sc q.Δ v = true) (he : ev K.Γ e q.ρ = some d) : ∃ l, d = .lst (l.map .int) ∧ NewInts K.prog K.w q.A q.s (eval v q.env) l := by
  rcases Bool.or_eq_true_iff.mp hn with h | h
  · exact Mine.E.repl.elim (motive_1 := fun e => chk K.cx e q.sc q.Δ v = true → ev K.Γ e q.ρ = some d → _) e (of_decide_eq_true h) (fun c n hc he => repl_new (all_E n).1 f hc he) hc he
  · rcases Bool.or_eq_true_iff.mp h with h | h
    · refine diteE h fun q' h => Mine.E.list.elim (motive_1 := fun e => ∀ q', Mine.E.list.elim (motive_1 := fun _ => Bool) e q' _ = true → chk K.cx e q.sc q.Δ v = true → ev K.Γ e q.ρ = some d → _) e q' (fun es q' h hc he => ?_) q' h hc he
      cases es with
      | nil => exact ⟨[], (Option.some.inj he).symm, empty_new hc⟩
      | cons => exact nomatch h
    · refine diteE h fun q' h => Mine.E.bi.elim (motive_1 := fun e => ∀ q', Mine.E.bi.elim (motive_1 := fun _ => Bool) e q' _ = true → chk K.cx e q.sc q.Δ v = true → ev K.Γ e q.ρ = some d → _) e q' (fun b es q' h hc he => ?_) q' h hc he
      cases b <;> first | exact range_new (LsAll.ls (all_EL es)) f hc he | exact nomatch h
/-- nothing is owned -/
theorem ownlessE {ρ : PE} {x : Option Out} {out : Out} {P : Prop} (h : ownless ρ x = some out) (k : ρ.own = none → ρ.hown = none → x = some out → P) : P := by
  unfold ownless at h
  cases h1 : ρ.own with
  | some => rw [h1] at h; exact none_some h
  | none =>
    cases h2 : ρ.hown with
    | some => rw [h1, h2] at h; exact none_some h
    | none => rw [h1, h2] at h; exact k h1 h2 h
theorem assignOwn_st {i : Nat} {e : E} : SOk K (.assignOwn i e) := fun p t out f hc he => asg1E hc fun y q v pos hy hc => ownlessE he fun ho hho he => bindE he fun d hd he => bindE he fun xs hxs he => bindE he fun l' hl' he Q E hQ => by
  cases Option.some.inj he
  obtain ⟨l, rfl, hnew⟩ := new_of (and1 (and2 hc)) f.fr (and2 (and2 hc)) hd
  cases Option.some.inj hxs
  have e : l' = l := Option.some.inj (hl'.symm.trans (intsOf_map l))
  subst e
  refine wpAny_Assign_Name (hnew _ _ fun D vs s₁ k1 hD hl hi => store_look f.F.kind (f.F.sto y i hy) (f.x.envin.heap k1.keep) fun h' tk a ha hsb i' hlk ho' => ?_) (notLC_swaps (notB (and1 hc)))
  have hat : At p.env [y] a := at_of (.head _) ha
  have hDa : D ≠ a := fun e => f.x.envin.alive.new hD (e ▸ hat.own)
  obtain ⟨⟨h₁, t₁, rfl⟩, k1k⟩ := k1
  obtain ⟨st, gr⟩ := f.x.adopt (ρ' := { (p.ρ.del i) with own := some (i, l') }) (W' := [D]) (tk := tk) f.F hy k1k (allC hD allN) (allC (let ⟨o, _, e, _⟩ := hl; ⟨o, e⟩) allN) i' (fun b o hb e => (hsb.2 b fun e' => hb (e' ▸ hat)).trans e) ho' rfl
    (own_one f.F hy hlk (.head _) (hl.extBut hsb.extBut hDa) hi) (no_hown hho) (.inr hho)
  exact hQ.1 rfl _ _ st gr
/-- the owned list is changed -/
theorem own_mut {i : Nat} {y : Str} {j : Nat} {xs l : List Int} {a : Addr} {vs : List Value} {s₁ : Shared} {h' : Heap} {Q : Flow → Shared → Prop} (f : SFr K p) (k : Kp p.s s₁) (hy : p.Δ.lookup y = some i) (ho : p.ρ.own = some (j, xs)) (hj : i = j) (lk : Look p.env p.s.heap y (.ref a)) (hw : a ∈ p.W) (hl : PlainL h' a vs.toArray) (hi : IntsAre vs l) (hs : Heap.SameBut a s₁.heap h')
    (hQ : Post p.env p.Δ p.s₀ p.O₀ p.W p.s ({ p.ρ with own := some (j, l) }, none) Q) : Q .next { s₁ with heap := h' } := by
  subst hj
  have hn : p.ρ.hown = none := f.x.one.resolve_left fun h => nomatch h.symm.trans ho
  obtain ⟨st, gr⟩ := (f.x.step k).mut (ρ' := { p.ρ with own := some (i, l) }) (tk := s₁.toks) (fun b o hb e => (hs.2 b fun e' => hb (e' ▸ hw)).trans e) (fun b hb => (Classical.em (b = a)).elim (fun e => let ⟨o, _, q, _⟩ := hl; ⟨o, e ▸ q⟩) fun e => let ⟨o, q⟩ := (f.x.step k).alive b (inL hb); ⟨o, (hs.2 b e).trans q⟩) rfl
    (own_one f.F hy ((lk.heap k.keep).but fun b hb o e => (hs.2 b fun e' => f.x.woff a hw (e' ▸ inL hb)).trans e) hw hl hi) (no_hown hn) (.inr hn)
  exact hQ.1 rfl _ _ st ((Gr.kp k).trans gr f.x.woff)
theorem sub_st {i : Nat} {a b : E} : SOk K (.sub i a b) := fun p t out f hc he => onAssignE hc fun ts v pos hc => l1E (P := fun ts => ∀ (Q : Flow → Shared → Prop) (E : Value → Shared → Prop), Post p.env p.Δ p.s₀ p.O₀ p.W p.s out Q → wpAny (model K.prog K.w) p.A (exec (.Assign ts v pos) p.env) Q E p.s) hc fun tt hc =>
  onSubscriptE (P := fun tt => ∀ (Q : Flow → Shared → Prop) (E : Value → Shared → Prop), Post p.env p.Δ p.s₀ p.O₀ p.W p.s out Q → wpAny (model K.prog K.w) p.A (exec (.Assign [tt] v pos) p.env) Q E p.s) hc fun o sl q hc => onNameE (P := fun o => ∀ (Q : Flow → Shared → Prop) (E : Value → Shared → Prop), Post p.env p.Δ p.s₀ p.O₀ p.W p.s out Q → wpAny (model K.prog K.w) p.A (exec (.Assign [.Subscript o sl q] v pos) p.env) Q E p.s) hc fun y q' hc =>
  bindE he fun d hd he => bindE he fun c hcv he => bindE he fun ow ho he => ifE he fun hj he => bindE he fun d' hd' he => bindE he fun k hk he => ifE he fun hb he Q E hQ => by
  cases Option.some.inj he
  have hy : p.Δ.lookup y = some i := of_decide_eq_true (and1 hc)
  obtain ⟨ad, vs, lk, hw, hpl, hi⟩ := f.x.own i ow.2 (hj ▸ ho) y hy
  refine wpAny_Assign_Subscript ((all_E b).1 (p.pt p.s) v d f.fr (and2 (and2 (and2 (and2 hc)))) hd _ _ fun u s₁ k1 r1 => name_look f.F.kind (notB (and1 (and2 hc))) (lk.heap k1.keep) ((all_E a).1 (p.pt s₁) sl d' (f.kp k1).fr (and1 (and2 (and2 (and2 hc)))) hd' _ _ fun u2 s₂ k2 r2 => ?_)) (notLC_swaps (notB (and1 (and2 (and2 hc)))))
  refine r1.intE (P := fun u => wpAny _ _ (setItem _ u2 u) _ _ _) hcv fun t1 => r2.intE (P := fun u2 => wpAny _ _ (setItem _ u2 _) _ _ _) hk fun t2 => ?_
  have k12 := k1.trans k2
  exact set_plain (hpl.keeps k12.keep) hb.1 (Int.lt_of_lt_of_le ((Int.toNat_lt hb.1).mp (Nat.lt_trans hb.2.1 (room_lt hb.2.2))) (by decide)) (Nat.lt_of_lt_of_eq hb.2.1 ((IntsAre.len hi).symm.trans List.size_toArray.symm)) fun h' hl' hsb =>
    own_mut f k12 hy ho hj lk hw (vs := vs.set k.toNat (.int c t1)) (List.setIfInBounds_toArray .. ▸ hl') (IntsAre.set' hi _ _ _) hsb hQ
theorem inter_fun {env : Env} (h : env.scope.kind = .function) : interactive env = false := by
  unfold interactive
  rw [h]
  rfl
theorem append_st {i : Nat} {e : E} : SOk K (.append i e) := fun p t out f hc he => callME hc fun y q apos args pos pos' hy hdb hap hc => l1E (P := fun args => ∀ (Q : Flow → Shared → Prop) (E : Value → Shared → Prop), Post p.env p.Δ p.s₀ p.O₀ p.W p.s out Q → wpAny (model K.prog K.w) p.A (exec (.Expr (.Call (.Attribute (.Name y q) _ apos) args [] pos) pos') p.env) Q E p.s) hc fun v hc =>
  bindE he fun d hd he => bindE he fun c hcv he => bindE he fun ow ho he => ifE he fun hj he Q E hQ => by
  cases Option.some.inj he
  obtain ⟨ad, vs, lk, hw, hpl, hi⟩ := f.x.own i ow.2 (hj.1 ▸ ho) y hy
  have h3 := and1 hc
  refine wpAny_Expr (wpAny_Call_append rfl (by rw [star_cons h3]; rfl) hap (by rw [star_cons h3]; rfl) (name_look f.F.kind hdb lk ⟨ad, vs.toArray, rfl, hpl, ?_⟩)) (inter_fun f.F.kind)
  refine (all_E e).1 (p.pt p.s) v d f.fr (and2 hc) hd _ _ fun u s₁ k1 r1 => r1.intE (P := fun u => wpAny _ _ (call _ [_, u]) _ _ _) hcv fun t1 => ?_
  exact list_append_plainL (hpl.keeps k1.keep) (fun h' hl' hsb => own_mut f k1 hy ho hj.1 lk hw (vs := vs ++ [.int c t1]) (List.push_toArray .. ▸ hl') (IntsAre.push' hi _ _) hsb hQ) ((List.size_toArray.trans (IntsAre.len hi)) ▸ room_line hj.2)
end
end Mine
end

-- Q19
section
open PySem PyProof.Rows PySem.Calls PySem.Spec PySem.W
set_option maxRecDepth 100000
set_option autoImplicit false
namespace Mine
section
variable {K : Ctx} {p : SP}
theorem HdrIs.weaken {O : List Addr} {h : Heap} {x dx l : Addr} {xs : List (Str × Str)} {ts : List Addr} (r : HdrIs [] h x xs dx l ts) (h1 : x ∉ O) (h2 : dx ∉ O) (h3 : l ∉ O) (h4 : ∀ t ∈ ts, t ∉ O) : HdrIs O h x xs dx l ts :=
  ⟨h1, h2, h3, r.apart, r.obj, r.ns, r.list, r.len, fun t p hm => ⟨h4 t (List.of_mem_zip hm).1, (r.item t p hm).2⟩⟩
theorem hnew_st {i : Nat} (C : KOk K) : SOk K (.hnew i) := fun p t out f hc he => asg1E hc fun y q v pos hy hc => callNE (P := fun v => ∀ (Q : Flow → Shared → Prop) (E : Value → Shared → Prop), Post p.env p.Δ p.s₀ p.O₀ p.W p.s out Q → wpAny (model K.prog K.w) p.A (exec (.Assign [.Name y q] v pos) p.env) Q E p.s) hc fun q' args pos' hg ha =>
  ownlessE he fun ho hho he => ifE he fun hsome he Q E hQ => by
  cases Option.some.inj he
  cases List.isEmpty_iff.mp ha
  refine wpAny_Assign_Name (eval_Call_Name (f.fr.glob hg C.hcls (C.hnew hsome p.A p.s pos' f.a f.hp _ _ fun xa dx l s₁ k1 n1 n2 n3 hh => store_look f.F.kind (f.F.sto y i hy) (f.x.envin.heap k1.keep) fun h' tk a ha hsb i' hlk ho' => ?_))) rfl
  have hat : At p.env [y] a := at_of (.head _) ha
  have off : ∀ b, p.s.heap.get? b = none → b ∉ Mine.own p.env ++ p.O₀ := fun b hb hm => f.x.aliveAll.new hb (inR hm)
  have hh' : HdrIs (Mine.own p.env ++ p.O₀) s₁.heap xa [] dx l [] := hh.weaken (off _ n1) (off _ n2) (off _ n3) allN
  obtain ⟨⟨h₁, t₁, rfl⟩, k1k⟩ := k1
  obtain ⟨st, gr⟩ := f.x.adopt (ρ' := { (p.ρ.del i) with hown := some (i, []) }) (W' := [xa, dx, l]) (tk := tk) f.F hy k1k (allC n1 (allC n2 (allC n3 allN))) (allC (let ⟨o, e, _⟩ := hh.obj; ⟨o, e⟩) (allC (let ⟨o, _, _, e, _⟩ := hh.ns; ⟨o, e⟩) (allC (let ⟨o, _, e, _⟩ := hh.list; ⟨o, e⟩) allN))) i'
    (fun b o hb e => (hsb.2 b fun e' => hb (e' ▸ hat)).trans e) ho' rfl (no_own ho)
    (hown_one f.F hy hlk ⟨.head _, .tail _ (.head _), .tail _ (.tail _ (.head _)), hh'.mono ⟨fun _ z _ => z, fun b o hb e => (hsb.2 b fun e' => hb (inL (e' ▸ hat.own))).trans e⟩, allN⟩) (.inl ho)
  exact hQ.1 rfl _ _ st gr
theorem hadd_st {i : Nat} {a b : E} (C : KOk K) : SOk K (.hadd i a b) := fun p t out f hc he => callME hc fun y q apos args pos pos' hy hdb hap hc => l2E (P := fun args => ∀ (Q : Flow → Shared → Prop) (E : Value → Shared → Prop), Post p.env p.Δ p.s₀ p.O₀ p.W p.s out Q → wpAny (model K.prog K.w) p.A (exec (.Expr (.Call (.Attribute (.Name y q) _ apos) args [] pos) pos') p.env) Q E p.s) hc fun va vb hc =>
  bindE he fun d1 hd1 he => bindE he fun k hk he => bindE he fun d2 hd2 he => bindE he fun v hv he => bindE he fun ow how he => ifE he fun hj he Q E hQ => by
  cases Option.some.inj he
  obtain ⟨ad, dx, l, ts, lk, q4⟩ := f.x.hown i ow.2 (hj.1 ▸ how) y hy
  have h3 := and1 hc
  have h4 := and1 (and2 hc)
  have hstar : ([va, vb] : List Expr).all notStar = true := Bool.and_eq_true_iff.mpr ⟨h3, Bool.and_eq_true_iff.mpr ⟨h4, rfl⟩⟩
  refine wpAny_Expr ?_ (inter_fun f.F.kind)
  rw [arm_eval_Call, base_plain rfl]
  refine wpAny_bind (name_look f.F.kind hdb lk (wpAny_bind (wpAny_standAt ?_)))
  refine hmeth_call f.hp q4.is (f := 237) (by rfl) hap (k := 2) (by decide) (plain_all hstar) (by rfl) (args_ok rfl hstar (wpAny_items_cons ((all_E a).1 (p.pt p.s) va d1 f.fr (and1 (and2 (and2 hc))) hd1 _ _ fun u s₁ k1 r1 =>
    wpAny_items_cons ((all_E b).1 (p.pt s₁) vb d2 (f.kp k1).fr (and2 (and2 (and2 hc))) hd2 _ _ fun u2 s₂ k2 r2 => wpAny_items_nil ⟨k1.trans k2, ?_⟩) (star_cons h4)) (star_cons h3)))
  have k12 := k1.trans k2
  have x2 := f.x.step k12
  refine r1.strE (P := fun u => wpAny _ _ (call _ ([_] ++ [u, u2]) _) _ _ _) hk fun t1 => r2.strE (P := fun u2 => wpAny _ _ (call _ ([_] ++ [_, u2]) _) _ _ _) hv fun t2 => ?_
  refine C.hadd k v hj.2.2 p.A _ s₂ ad dx l ow.2 ts t1 t2 hj.2.1 f.a (f.kp k12).hp (fun b hb => x2.aliveAll b (inR hb)) (q4.is.mono (.grow k12.keep)) _ _ fun h' tk T hk' hT hh => ?_
  have hn : p.ρ.own = none := f.x.one.resolve_right fun h => nomatch h.symm.trans how
  have hkW : ∀ b o, b ∉ p.W → s₂.heap.get? b = some o → h'.get? b = some o := fun b o hb e => hk' b o (fun e' => hb (e' ▸ q4.hl)) e
  obtain ⟨st, gr⟩ := x2.mut (ρ' := { p.ρ with hown := some (ow.1, ow.2 ++ [(k, v)]) }) (tk := tk) hkW (fun z hz => (Classical.em (z = l)).elim (fun e => let ⟨o, _, q, _⟩ := hh.list; ⟨o, e ▸ q⟩) fun e => let ⟨o, e'⟩ := x2.alive z (inL hz); ⟨o, hk' z o e e'⟩) rfl (no_own hn)
    (hown_one f.F (hj.1 ▸ hy) ((lk.heap k12.keep).but fun b hb o e => hkW b o (fun hw => f.x.woff b hw (inL hb)) e) ⟨q4.ha, q4.hd, q4.hl, hh, fun t ht => inE ht (q4.off t) fun ht hm => x2.aliveAll.new hT (List.mem_singleton.mp ht ▸ hm)⟩) (.inl hn)
  exact hQ.1 rfl _ _ st ((Gr.kp k12).trans gr f.x.woff)

/-- what the two names' stores come to -/
noncomputable def swapG (bk : ScopeKind) (a b : Option Str) (d : Bool) (U : Sem (Option (List Str))) : Sem (Option (List Str)) :=
  if (bk != .function) = true then pure none else if ((nm2 a b).length != 2 || (nm2 a b).eraseDups.length != (nm2 a b).length) = true then pure none else if d = true then U else pure (some (nm2 a b))
theorem swapG_is {x y : Str} {U : Sem (Option (List Str))} (hxy : x ≠ y) : swapG .function (some x) (some y) false U = pure (some [x, y]) := by
  have e1 : ([x, y] : List Str).eraseDups.length = 2 := by
    rw [List.eraseDups_cons, List.filter_cons, beq_false_of_ne (Ne.symm hxy)]; rfl
  show (if (false || ([x, y] : List Str).eraseDups.length != 2) = true then pure none else pure (some [x, y])) = _
  rw [e1]; rfl
theorem swapped_two {x y c : Str} {p q pc : Pos} {k k' : Nat} {r r' : Pos} {vb : Expr} {env : Env} (hk : env.scope.kind = .function) (hx : env.kindOf x = some .local) (hy : env.kindOf y = some .local) (hxy : x ≠ y) (hl : q.line = p.line)
    (hd : (c == ("__debug__" : Str)) = false) (hb : swapRight vb = true) :
    swappedStores [.Tuple [.Name x p, .Name y q] k r] (.Tuple [.Name c pc, vb] k' r') env = pure (some [x, y]) := by
  have hbk : env.blockKind = .function := by unfold Env.blockKind; rw [hk]; rfl
  have nx : (if (env.kindOf x == some NameKind.local && p.line == p.line) = true then some x else none) = some x := by rw [hx, beq_self_eq_true, beq_self_eq_true]; rfl
  have ny : (if (env.kindOf y == some NameKind.local && q.line == p.line) = true then some y else none) = some y := by rw [hy, hl, beq_self_eq_true, beq_self_eq_true]; rfl
  have key : ∀ (b : Bool) (U : Sem (Option (List Str))), swapG env.blockKind (if (env.kindOf x == some NameKind.local && p.line == p.line) = true then some x else none) (if (env.kindOf y == some NameKind.local && q.line == p.line) = true then some y else none) ((c == ("__debug__" : Str)) && b) U = pure (some [x, y]) := fun b U => by
    rw [hbk, nx, ny, hd]; exact swapG_is hxy
  rcases Bool.or_eq_true_iff.mp hb with h | h
  · exact Expr.Name.elim (motive_1 := fun vb => swappedStores [.Tuple [.Name x p, .Name y q] k r] (.Tuple [.Name c pc, vb] k' r') env = pure (some [x, y])) vb (of_decide_eq_true h) fun d pd => key _ _
  · exact Expr.BinOp.elim (motive_1 := fun vb => swappedStores [.Tuple [.Name x p, .Name y q] k r] (.Tuple [.Name c pc, vb] k' r') env = pure (some [x, y])) vb (of_decide_eq_true h) fun l o r2 pd => key _ _
theorem swap_st {i j : Nat} {a b : E} : SOk K (.swap i j a b) := fun p t out f hc he => asg2E hc fun y q z q' n r v pos hn hc => onTupleE (P := fun v => ∀ (Q : Flow → Shared → Prop) (E : Value → Shared → Prop), Post p.env p.Δ p.s₀ p.O₀ p.W p.s out Q → wpAny (model K.prog K.w) p.A (exec (.Assign [.Tuple [.Name y q, .Name z q'] n r] v pos) p.env) Q E p.s) hc fun es k' r' hc =>
  l2E (P := fun es => ∀ (Q : Flow → Shared → Prop) (E : Value → Shared → Prop), Post p.env p.Δ p.s₀ p.O₀ p.W p.s out Q → wpAny (model K.prog K.w) p.A (exec (.Assign [.Tuple [.Name y q, .Name z q'] n r] (.Tuple es k' r') pos) p.env) Q E p.s) hc fun va vb hc =>
  onNameE (P := fun va => ∀ (Q : Flow → Shared → Prop) (E : Value → Shared → Prop), Post p.env p.Δ p.s₀ p.O₀ p.W p.s out Q → wpAny (model K.prog K.w) p.A (exec (.Assign [.Tuple [.Name y q, .Name z q'] n r] (.Tuple [va, vb] k' r') pos) p.env) Q E p.s) hc fun c pc hc => bindE he fun d1 hd1 he => bindE he fun d2 hd2 he => ifE he fun hf he Q E hQ => by
  cases Option.some.inj he
  obtain ⟨h5, h6, h7⟩ := of_decide_eq_true (and1 hc)
  have h9 := and1 (and2 (and2 hc))
  have hvb : notStar vb = true := decide_eq_true fun e => (Bool.or_eq_true_iff.mp h9).elim (fun h => nomatch (of_decide_eq_true h).symm.trans e) fun h => nomatch (of_decide_eq_true h).symm.trans e
  rw [exec_Assign_arm]
  refine wpAny_bind (wpAny_standAt (wpAny_bind (wpAny_pure ?_)))
  rw [if_neg Bool.false_ne_true]
  refine wpAny_bind (wpAny_Tuple (wpAny_items_cons ((all_E a).1 (p.pt p.s) _ d1 f.fr (and1 (and2 (and2 (and2 hc)))) hd1 _ _ fun u1 s₁ k1 r1 => wpAny_items_cons ((all_E b).1 (p.pt s₁) vb d2 (f.kp k1).fr (and2 (and2 (and2 (and2 hc)))) hd2 _ _ fun u2 s₂ k2 r2 => wpAny_items_nil ⟨show 2 ≤ sizeLine by decide, ?_⟩) (star_cons hvb))))
  rw [swapped_two f.F.kind (f.F.loc _ h5) (f.F.loc _ h6) hn.2.2.1 h7 (dbg_1 (notB (and1 (and2 hc)))) h9]
  refine wpAny_bind (wpAny_pure ?_)
  show wpAny _ _ (do
    rule "assign.swapped-stores"
    let items ← unpackItems (.ref s₂.heap.objs.size) 2 none
    assignInOrder [fun v => bindName p.env z v, fun v => bindName p.env y v] items.reverse
    pure Flow.next) _ _ _
  have hT : (s₂.heap.push { cls := .type "tuple", data := .seq [u1, u2].toArray }).IsTuple s₂.heap.objs.size #[u1, u2] := ⟨_, Heap.get?_push_size _ rfl, rfl, _, rfl⟩
  refine wpAny_bind (wpAny_rule (wpAny_bind (wpAny_unpackItems_tuple (items := #[u1, u2]) f.a.handled hT fun h₃ he3 => ?_)))
  have k3 : Kp p.s { s₂ with heap := h₃ } := (k1.trans k2).trans (Kp.of' fun b o e => he3 b o (Nat.ne_of_lt (Heap.lt_size (Heap.get?_push_of_some _ e))) (Heap.get?_push_of_some _ e))
  have g3 := f.kp k3
  have hb : bindT (.two z j y i) (.tup [d2, d1]) p.ρ = some ((p.ρ.set j d2).set i d1) := if_pos hf
  refine wpAny_bind (wpAny_bind (wpAny_holding (bindName_store (store_one (i := j) f.F.kind (f.F.sto z j hn.2.1) (fun _ h => SFr.own h) g3.x.envin (r2.heap fun b o e => he3 b o (Nat.ne_of_lt (Heap.lt_size (Heap.get?_push_of_some _ e))) (Heap.get?_push_of_some _ e)) fun h₄ tk4 s4 => ?_))))
  refine wpAny_bind (wpAny_holding (bindName_store (store_one (i := i) f.F.kind (f.F.sto y i hn.1) (fun _ h => SFr.own h) s4.i (((r1.keeps k2).heap fun b o e => he3 b o (Nat.ne_of_lt (Heap.lt_size (Heap.get?_push_of_some _ e))) (Heap.get?_push_of_some _ e)).mono' (s4.mv fun _ h => SFr.own h)) fun h₅ tk5 s5 => wpAny_pure (wpAny_pure ?_))))
  exact g3.stored hb (nodup2 (Ne.symm hn.2.2.2)) (allC hn.2.1 (allC hn.1 allN)) (two_st (Ne.symm hn.2.2.1) (fun _ _ e => e) (fun _ h => SFr.own h) s4 s5) (hQ.kp k3)
theorem afterE {g : PE → Option Out} {o out : Out} {P : Prop} (h : after g o = some out) (k1 : o.2 = none → g o.1 = some out → P) (k2 : ∀ v, o.2 = some v → out = (o.1, some v) → P) : P := by
  obtain ⟨ρ, v⟩ := o
  cases v with
  | none => exact k1 rfl h
  | some v => exact k2 v rfl (Option.some.inj h).symm
/-- a body's end goes on, or gives back -/
theorem Post.body {W W' : List Addr} {s s₁ : Shared} {o out : Out} {g : PE → Option Out} {Q Q' : Flow → Shared → Prop} (h : after g o = some out) (hQ : Post p.env p.Δ p.s₀ p.O₀ W s out Q) (k1 : g o.1 = some out → ∀ s' W'', Fst p.env p.Δ p.s₀ p.O₀ o.1 W'' s' → Gr p.env W' s₁ s' W'' → Q' .next s') (k2 : ∀ v s', Q (.ret v) s' → Q' (.ret v) s') : Post p.env p.Δ p.s₀ p.O₀ W' s₁ o Q' :=
  afterE h (fun e h => ⟨fun _ => k1 h, fun _ e' => nomatch e.symm.trans e'⟩) fun v e h => ⟨fun e' => (nomatch e'.symm.trans e), fun pv e' u s' k r => k2 u s' (hQ.2 pv (h ▸ e.symm.trans e') u s' k r)⟩
inductive WI (K : Ctx) (p : SP) (c : E) (b : SL) (out : Out) : Nat → Shared → Prop
  | mk {m : Nat} {ρ' : PE} {W' : List Addr} {s' : Shared} (x : Fst p.env p.Δ p.s₀ p.O₀ ρ' W' s') (g : Gr p.env p.W p.s s' W') (hw : whileGo (fun ρ => trP (ev K.Γ c ρ)) (fun ρ => exs K.Γ b ρ) m ρ' = some out) : WI K p c b out m s'
theorem whil_st {m : Nat} {c : E} {b : SL} (hb : SLOk K b) : SOk K (.whil m c b) := fun p t out f hc he => onWhileE hc fun x y z pos hc => l0E (P := fun z => ∀ (Q : Flow → Shared → Prop) (E : Value → Shared → Prop), Post p.env p.Δ p.s₀ p.O₀ p.W p.s out Q → wpAny (model K.prog K.w) p.A (exec (.While x y z pos) p.env) Q E p.s) hc fun hc Q E hQ => by
  refine wpAny_While (codeAny_whileLoop (WI K p c b out) (fun k s' I => ?_) m (.mk f.x (Gr.kp (Kp.refl _)) he))
  obtain ⟨x', g', hw⟩ := I
  cases k with
  | zero => exact none_some hw
  | succ k =>
    have f' : SFr K (p.to _ _ s') := ⟨f.a, f.h, f.F, x'⟩
    refine bindE hw fun d hd hw => (all_E c).2 _ x d f'.fr (and1 hc) hd _ _ fun s₁ k1 => ?_
    have g1 := g'.trans (Gr.kp k1) x'.woff
    cases d with
    | false =>
      cases Option.some.inj hw
      exact wpAny_execs_nil (hQ.1 rfl _ _ (f'.kp k1).x g1)
    | true => exact bindE hw fun o ho hw => hb _ y o (f'.kp k1) (and2 hc) ho _ _ (Post.body hw hQ (fun h s₂ W₂ x2 g2 => ⟨k, Nat.lt_succ_self k, .mk x2 (g1.trans g2 x2.woff) h⟩) fun _ _ q => q)
end
end Mine
end

-- Q20
section
open PySem PyProof.Rows PySem.Calls PySem.Spec PySem.W
set_option maxRecDepth 100000
set_option autoImplicit false
namespace Mine
theorem Bound.sub {tg : Tg} {O O' : List Addr} {h : Heap} {v : Value} {d : PV} (b : Bound tg O h v d) (k : ∀ a, a ∉ O → a ∉ O') : Bound tg O' h v d := by
  have m : Mv O O' h h := ⟨fun a ha _ => k a ha, fun _ _ _ e => e⟩
  cases tg with
  | one => exact Rep.mono' m b
  | two => exact fun x y e => let ⟨T, u, v, e1, e2, r1, r2⟩ := b x y e; ⟨T, u, v, e1, e2, r1.mono' m, r2.mono' m⟩
section
variable {K : Ctx} {p : SP} {target : Expr} {tg : Tg} {items : List PV} {s₂ : Shared} {I : Addr} {fp wr : List Addr} {P Md : Nat → Value → Heap → Prop} {St : Nat → Heap → Prop} {b : SL} {out : Out}
/-- what stands fast in a loop -/
structure LFr (K : Ctx) (p : SP) (target : Expr) (tg : Tg) (items : List PV) (s₂ : Shared) (I : Addr) (fp wr : List Addr) (P Md : Nat → Value → Heap → Prop) (St : Nat → Heap → Prop) : Prop where
  f : SFr K p
  F : FeedAt K.prog K.w p.A target (p.W ++ (own p.env ++ p.O₀)) p.s tg items s₂ I fp wr P Md St
  hT : tg.Is target
  htab : ∀ q ∈ tg.tab, p.Δ.lookup q.1 = some q.2
  hd : tg.slots.Nodup
inductive FI (K : Ctx) (p : SP) (tg : Tg) (items : List PV) (s₂ : Shared) (wr : List Addr) (St : Nat → Heap → Prop) (b : SL) (out : Out) : Nat → Shared → Prop
  | mk (i : Nat) (ρ' : PE) (W' : List Addr) {s' : Shared} (st : St i s'.heap) (x : Fst p.env p.Δ p.s₀ (wr ++ p.O₀) ρ' W' s') (hk : ∀ z o, z ∉ own p.env → z ∉ p.W → z ∉ wr → s₂.heap.get? z = some o → s'.heap.get? z = some o) (hW : ∀ z ∈ W', z ∈ p.W ∨ s₂.heap.get? z = none)
      (hgo : forGo tg (fun ρ => exs K.Γ b ρ) (items.drop i) ρ' = some out) (hle : i ≤ items.length) : FI K p tg items s₂ wr St b out (items.length + 1 - i) s'
section
variable (L : LFr K p target tg items s₂ I fp wr P Md St)
include L
theorem LFr.wrOwn {z : Addr} (h : z ∈ wr) : z ∉ own p.env := fun hm => L.f.x.envin.alive.new (L.F.wrNew z h) hm
theorem LFr.wrX : ∀ z ∈ wr, z ∉ own p.env ∧ z ∈ wr ++ p.O₀ := fun _ h => ⟨L.wrOwn h, inL h⟩
theorem LFr.fpOff {z : Addr} (h : z ∈ fp) : z ∉ p.W ++ (own p.env ++ p.O₀) := fun hm => (L.F.fpOld z h).elim (fun e => L.f.x.aliveAll.new e hm) fun e => e hm
theorem LFr.fpOwn {z : Addr} (h : z ∈ fp) : z ∉ own p.env := fun hm => L.fpOff h (inR (inL hm))
theorem LFr.fpW {W' : List Addr} (hW : ∀ z ∈ W', z ∈ p.W ∨ s₂.heap.get? z = none) {z : Addr} (h : z ∈ fp) : z ∉ W' := fun hm => (hW z hm).elim (fun q => L.fpOff h (inL q)) fun q => let ⟨_, e⟩ := L.F.fpAt z h; nomatch q.symm.trans e
theorem LFr.offO {z : Addr} (h : z ∈ p.O₀) : z ∉ wr := fun hm => let ⟨_, e⟩ := L.f.x.alive z (inR h); nomatch (L.F.wrNew z hm).symm.trans e
theorem LFr.start (hgo : forGo tg (fun ρ => exs K.Γ b ρ) items p.ρ = some out) : FI K p tg items s₂ wr St b out (items.length + 1) s₂ :=
  .mk 0 _ _ L.F.zero (L.f.x.mv (X := []) (L.f.x.kp.trans L.F.kp) (fun _ _ _ e => L.F.kp.get e) (fun _ h => nomatch h) (fun z hz ho hm => inE hm (fun h => let ⟨_, e⟩ := ho; nomatch (L.F.wrNew z h).symm.trans e) hz) fun z hz => inE hz (fun h => L.F.fpAt z (L.F.turns.sub z h)) fun h => Alive.keeps (fun a ha => L.f.x.alive a (inR ha)) L.F.kp z h)
    (fun _ _ _ _ _ e => e) (fun _ h => .inl h) hgo (Nat.zero_le _)
theorem LFr.s0 {s' : Shared} (k : Kp p.s₀ s') {h' : Heap} {tk : Nat} (hk : ∀ z o, z ∉ wr → s'.heap.get? z = some o → h'.get? z = some o) : Kp p.s₀ { s' with heap := h', toks := tk } := k.upd fun z o e0 e => hk z o (fun hm => nomatch (L.f.x.kp.none (L.F.wrNew z hm)).symm.trans e0) e
/-- one turn, and the end -/
theorem LFr.turn {body : List Stmt} (hb : SLOk K b) (hc : chkSL K.cx b p.sc p.Δ body = true) {Q : Flow → Shared → Prop} {E : Value → Shared → Prop} (hQ : Post p.env p.Δ p.s₀ p.O₀ p.W p.s out Q) {k : Nat} {s' : Shared} (hI : FI K p tg items s₂ wr St b out k s') :
    wpAny (model K.prog K.w) p.A (pyNext (.ref I)) (fun r s₁ => match r with
      | none => Q .next s₁
      | some v => wpAny (model K.prog K.w) p.A (letOwnedTupleGo target (.ref I) v) (fun _ s₁' => wpAny (model K.prog K.w) p.A (assign target p.env v) (fun _ s₂' => wpAny (model K.prog K.w) p.A (execs body p.env) (fun f s₃ => match f with
            | .next | .cont => ∃ m, m < k ∧ FI K p tg items s₂ wr St b out m s₃
            | .brk => Q .next s₃
            | .ret v => Q (.ret v) s₃) E s₂') E s₁') E s₁) E s' := by
  obtain ⟨i, ρ', W', st, x', hk, hW, hgo, hle⟩ := hI
  rcases Nat.lt_or_eq_of_le hle with hlt | hin
  · refine L.F.turns.item i _ _ _ hlt st fun v h₁ tk₁ hMd hk₁ => L.F.turns.go i v _ _ _ hMd fun h₂ hP hst₂ hk₂ => ?_
    have k12 : ∀ z o, z ∉ wr → s'.heap.get? z = some o → h₂.get? z = some o := fun z o hz e => hk₂ z o hz (hk₁ z o hz e)
    have x3 := x'.mv (X := wr) (O₁ := wr ++ p.O₀) (s' := { s' with heap := h₂, toks := tk₁ }) (L.s0 x'.kp k12) k12 L.wrX (fun _ h _ => h) fun z hz => inE hz (L.F.alive _ _ hst₂ z) fun h => let ⟨o, e⟩ := x'.alive z (inR (inR h)); ⟨o, k12 z o (L.offO h) e⟩
    have kk : ∀ z o, z ∉ own p.env → z ∉ p.W → z ∉ wr → s₂.heap.get? z = some o → h₂.get? z = some o := fun z o a b c e => k12 z o c (hk z o a b c e)
    have hit := L.F.item i v h₂ (W' ++ wr) hP (fun z o hw hO e => kk z o (fun h => hO (inR (inL h))) (fun h => hO (inL h)) hw e) fun z hz => inE hz (fun h => (hW z h).elim (fun q => .inr (.inr (inL q))) fun q => .inr (.inl q)) .inl
    have hgo' : ∀ d, items[i]? = some d → forGo tg (fun ρ => exs K.Γ b ρ) (d :: items.drop (i + 1)) ρ' = some out := fun d hdi => by
      rw [List.drop_eq_getElem_cons hlt, Option.some.inj ((List.getElem?_eq_getElem hlt).symm.trans hdi)] at hgo
      exact hgo
    refine hit.elim fun d hit => bindE (hgo' d hit.1) fun ρ₁ hbind hgo => bindE hgo fun o ho hgo => ?_
    have hbd : Bound tg (W' ++ (own p.env ++ (wr ++ p.O₀))) h₂ v d := hit.2.sub fun z hz hm => inE hm (fun h => hz (inL (inL h))) fun h => inE h (fun h => hz (inR (inR (inL h)))) fun h => inE h (fun h => hz (inL (inR h))) fun h => hz (inR (inR (inR h)))
    refine tg_assign L.hT L.f.a.handled L.f.F.kind (fun y hy => let ⟨i, hi⟩ := names_tab hy; L.f.F.sto y i (L.htab _ (mem_of_lookup hi))) (fun _ h => inR (inL h)) x3.envin hbd hbind fun h₃ tk₃ s3 => ?_
    obtain ⟨x4, g4⟩ := x3.stored (tk := tk₃) L.f.F hbind L.hd L.htab s3
    have hst₃ : St (i + 1) h₃ := L.F.turns.frame _ _ _ hst₂ fun z hz o e => s3.k z o (fun ha => L.fpOwn hz ha.own) e
    have k3 : ∀ z o, z ∉ own p.env → z ∉ p.W → z ∉ wr → s₂.heap.get? z = some o → h₃.get? z = some o := fun z o a b c e => s3.k z o (fun ha => a ha.own) (kk z o a b c e)
    refine hb ⟨p.sc, p.Δ, ρ₁, p.A, wr ++ p.O₀, W', p.env, p.s₀, _⟩ body o ⟨L.f.a, L.f.h, L.f.F, x4⟩ hc ho _ _ (afterE hgo (fun e hgo => ⟨fun _ s₄ W₄ x5 g5 => ?_, fun _ e' => nomatch e.symm.trans e'⟩) fun pv e hout => ⟨fun e' => (nomatch e'.symm.trans e), fun pv' e' u s₅ k5 r5 => hQ.2 pv' (hout ▸ e.symm.trans e') u s₅ k5 (r5.mono (fun _ ha _ hm => ha (inR hm)) fun _ _ _ e => e)⟩)
    refine ⟨_, Nat.sub_lt_sub_left (Nat.lt_succ_of_lt hlt) (Nat.lt_succ_self i), .mk _ _ _ (L.F.turns.frame _ _ _ hst₃ fun z hz o e => g5.keep z o (L.fpOwn hz) (L.fpW hW hz) e) x5 (fun z o a b c e => g5.keep z o a (fun hm => (hW z hm).elim b fun q => nomatch q.symm.trans e) (k3 z o a b c e)) (fun z hz => (g5.wnew z hz).elim (hW z) fun h => ?_) hgo hlt⟩
    cases e : s₂.heap.get? z with
    | none => exact .inr rfl
    | some o => exact (Classical.em (z ∈ p.W)).elim .inl fun hw => nomatch h.symm.trans (k3 z o (fun q => x5.woff z hz (inL q)) hw (fun q => x5.woff z hz (inR (inL q))) e)
  · subst hin
    rw [List.drop_length] at hgo
    cases Option.some.inj hgo
    refine L.F.turns.done _ _ _ st fun h₁ tk₁ hk₁ => hQ.1 rfl _ W' (x'.mv (X := wr) (O₁ := p.O₀) (L.s0 x'.kp hk₁) hk₁ L.wrX (fun _ h _ hm => h (inR hm)) fun z hz => let ⟨o, e⟩ := x'.alive z (inR (inR hz)); ⟨o, hk₁ z o (L.offO hz) e⟩) ⟨fun z o a b e => ?_, fun z hz => (hW z hz).imp id L.F.kp.none⟩
    have hw : z ∉ wr := fun hm => nomatch (L.F.wrNew z hm).symm.trans e
    exact hk₁ z o hw (hk z o a b hw (L.F.kp.get e))
end
theorem for_st {src : Src} (hb : SLOk K b) : SOk K (.for tg src b) := fun p t out f hc he => onForE hc fun tt it y z pos hc => l0E (P := fun z => ∀ (Q : Flow → Shared → Prop) (E : Value → Shared → Prop), Post p.env p.Δ p.s₀ p.O₀ p.W p.s out Q → wpAny (model K.prog K.w) p.A (exec (.For tt it y z pos) p.env) Q E p.s) hc fun hc => bindE he fun items hi he Q E hQ => by
  obtain ⟨s1, s2, s3⟩ := all_Src src (p.pt p.s) it tg tt items (and1 (and2 hc)) (and1 hc) hi
  refine wpAny_For (s3 f.fr _ _ fun itv s₂ hf => ?_) (s2 p.env)
  obtain ⟨I, fp, wr, P, Md, St, rfl, FF⟩ := hf
  have L : LFr K p tt tg items s₂ I fp wr P Md St := ⟨f, FF, tgIs_Is (and1 hc), of_decide_eq_true (and1 (and2 (and2 hc))), of_decide_eq_true (and1 (and2 (and2 (and2 hc))))⟩
  exact codeAny_forLoop_any (FI K p tg items s₂ wr St b out) (fun k s' hI => wpAny_mono (L.turn hb (and2 (and2 (and2 (and2 hc)))) hQ hI) (fun r s₁ h => by
    cases r with
    | none => exact wpAny_execs_nil h
    | some v => exact h) fun _ _ h => h) (items.length + 1) (L.start he)

theorem nil_sl : SLOk K .nil := fun p ts out f hc he Q E hQ => by
  cases List.isEmpty_iff.mp hc
  cases Option.some.inj he
  exact wpAny_execs_nil (hQ.1 rfl p.s p.W f.x (Gr.kp (Kp.refl p.s)))
/-- a ghost: what was owned becomes a value -/
theorem ghost_sl {st : S} {r : SL} (hr : SLOk K r) (hg : ∀ (p : SP) out, SFr K p → ex K.Γ st p.ρ = some out → ∃ ρ', out = (ρ', none) ∧ Fst p.env p.Δ p.s₀ p.O₀ ρ' [] p.s ∧ Gr p.env p.W p.s p.s []) (p : SP) (ts : List Stmt) (out : Out) (f : SFr K p) (hc : chkSL K.cx r p.sc p.Δ ts = true) (he : exs K.Γ (.cons st r) p.ρ = some out)
    (Q : Flow → Shared → Prop) (E : Value → Shared → Prop) (hQ : Post p.env p.Δ p.s₀ p.O₀ p.W p.s out Q) : wpAny (model K.prog K.w) p.A (execs ts p.env) Q E p.s :=
  bindE he fun o ho he => by
    obtain ⟨ρ', rfl, x, g⟩ := hg p o f ho
    exact hr (p.to ρ' [] p.s) ts out ⟨f.a, f.h, f.F, x⟩ hc he _ _ ⟨fun e s₂ W₂ x2 g2 => hQ.1 e s₂ W₂ x2 (g.trans g2 x2.woff), hQ.2⟩
theorem cons_sl {st : S} {r : SL} (hst : SOk K st) (hr : SLOk K r) : SLOk K (.cons st r) := fun p ts out f hc he => by
  by_cases h1 : st.ctorIdx = 11
  · refine S.freeze.elim (motive_1 := fun st => chkSL K.cx (.cons st r) p.sc p.Δ ts = true → exs K.Γ (.cons st r) p.ρ = some out → _) st h1 (fun i hc he => ?_) hc he
    exact ghost_sl hr (fun p out f h => f.x.freeze h) p ts out f hc he
  · by_cases h2 : st.ctorIdx = 15
    · refine S.hfreeze.elim (motive_1 := fun st => chkSL K.cx (.cons st r) p.sc p.Δ ts = true → exs K.Γ (.cons st r) p.ρ = some out → _) st h2 (fun i hc he => ?_) hc he
      exact ghost_sl hr (fun p out f h => f.x.hfreeze h) p ts out f hc he
    · have hc : cond (decide (st.ctorIdx = 11) || decide (st.ctorIdx = 15)) (chkSL K.cx r p.sc p.Δ ts) (List.casesOn (motive := fun _ => Bool) ts false fun t ts' => chkSt K.cx st p.sc p.Δ t && chkSL K.cx r p.sc p.Δ ts') = true := hc
      rw [decide_eq_false h1, decide_eq_false h2] at hc
      cases ts with
      | nil => exact nomatch hc
      | cons t ts => exact bindE he fun o ho he Q E hQ => wpAny_execs_cons (hst p t o f (and1 hc) ho _ _ (Post.body he hQ (fun he s₁ W₁ x1 g1 => hr (p.to o.1 W₁ s₁) ts out ⟨f.a, f.h, f.F, x1⟩ (and2 hc) he _ _ ⟨fun e s₂ W₂ x2 g2 => hQ.1 e s₂ W₂ x2 (g1.trans g2 x2.woff), hQ.2⟩) fun _ _ q => q))
mutual
theorem all_S (C : KOk K) : ∀ st : S, SOk K st
  | .assign _ _ => assign_st
  | .assignOwn _ _ => assignOwn_st
  | .assign2 _ _ _ => assign2_st
  | .swap _ _ _ _ => swap_st
  | .aug _ _ _ => aug_st
  | .sub _ _ _ => sub_st
  | .append _ _ => append_st
  | .ret _ => ret_st
  | .ife _ a b => ife_st (all_SL C a) (all_SL C b)
  | .whil _ _ b => whil_st (all_SL C b)
  | .for _ _ b => for_st (all_SL C b)
  | .freeze _ => fun _ _ _ _ hc => nomatch hc
  | .both _ _ _ => both_st
  | .hnew _ => hnew_st C
  | .hadd _ _ _ => hadd_st C
  | .hfreeze _ => fun _ _ _ _ hc => nomatch hc
theorem all_SL (C : KOk K) : ∀ b : SL, SLOk K b
  | .nil => nil_sl
  | .cons s r => cons_sl (all_S C s) (all_SL C r)
end
end
end Mine
end

-- Q21
section
open PySem PyProof.Rows PySem.Calls PySem.Spec PySem.W
set_option maxRecDepth 100000
set_option autoImplicit false
set_option genSizeOf false
set_option genInjectivity false
namespace Mine

theorem bindL_off {kd : Str → Option NameKind} : ∀ (b : List (Str × Value)) (m : Str → Option Value) (x : Str), x ∉ b.map (·.1) → bindL kd b m x = m x
  | [], _, _, _ => rfl
  | (n, v) :: r, m, x, h => by
    refine (bindL_off r _ x fun q => h (.tail _ q)).trans ?_
    split
    · exact if_neg fun (e : x = n) => h (e ▸ .head _)
    · rfl
theorem bindL_get {kd : Str → Option NameKind} : ∀ (b : List (Str × Value)) (m : Str → Option Value) (x : Str) (v : Value), (b.map (·.1)).Nodup → (x, v) ∈ b → kd x = some .local → bindL kd b m x = some v
  | (n, v0) :: r, m, x, v, hn, hm, hk => by
    rcases List.mem_cons.mp hm with e | hm
    · cases e
      refine (bindL_off r _ _ (List.nodup_cons.mp hn).1).trans ?_
      rw [if_pos hk]
      exact if_pos rfl
    · exact bindL_get r _ x v (List.nodup_cons.mp hn).2 hm hk
theorem bindC_off {kd : Str → Option NameKind} : ∀ (b : List (Str × Value)) (m : Str → Option Value) (x : Str), x ∉ b.map (·.1) → bindC kd b m x = m x
  | [], _, _, _ => rfl
  | (n, v) :: r, m, x, h => by
    refine (bindC_off r _ x fun q => h (.tail _ q)).trans ?_
    split
    · rfl
    · exact if_neg fun (e : x = n) => h (e ▸ .head _)
theorem bindC_get {kd : Str → Option NameKind} : ∀ (b : List (Str × Value)) (m : Str → Option Value) (x : Str) (v : Value), (b.map (·.1)).Nodup → (x, v) ∈ b → kd x ≠ some .local → bindC kd b m x = some v
  | (n, v0) :: r, m, x, v, hn, hm, hk => by
    rcases List.mem_cons.mp hm with e | hm
    · cases e
      refine (bindC_off r _ _ (List.nodup_cons.mp hn).1).trans ?_
      rw [if_neg hk]
      exact if_pos rfl
    · exact bindC_get r _ x v (List.nodup_cons.mp hn).2 hm hk

/-- a def's names and slots -/
structure FnOk (scope : Scope) (Δ : De) (fn : Fn) : Prop where
  kind : scope.kind = .function
  gen : scope.isGenerator = false
  cor : scope.isCoroutine = false
  nodup : (scope.names.map (·.1)).Nodup
  nofree : ∀ p ∈ scope.names, p.2 ≠ .free
  kinds : ∀ p ∈ Δ, scope.names.lookup p.1 = some .local ∨ scope.names.lookup p.1 = some .cell
  slots : (Δ.map (·.2)).Nodup
  names : (Δ.map (·.1)).Nodup
  first : (Δ.take fn.n).map (·.2) = List.range fn.n
  few : fn.n ≤ Δ.length
noncomputable def fnChk (scope : Scope) (Δ : De) (fn : Fn) : Bool :=
  decide (scope.kind = .function ∧ scope.isGenerator = false ∧ scope.isCoroutine = false ∧ (scope.names.map (·.1)).Nodup ∧ (∀ p ∈ scope.names, p.2 ≠ .free) ∧ (∀ p ∈ Δ, scope.names.lookup p.1 = some .local ∨ scope.names.lookup p.1 = some .cell) ∧ (Δ.map (·.2)).Nodup ∧ (Δ.map (·.1)).Nodup ∧ (Δ.take fn.n).map (·.2) = List.range fn.n ∧ fn.n ≤ Δ.length)
theorem fnChk_ok {scope : Scope} {Δ : De} {fn : Fn} (h : fnChk scope Δ fn = true) : FnOk scope Δ fn := let ⟨a, b, c, d, e, f, g, h, i, j⟩ := of_decide_eq_true h; ⟨a, b, c, d, e, f, g, h, i, j⟩
/-- how a call binds its arguments, as a structure: a plain def of this form is slow to elaborate -/
structure BindsS (s : Shared) (fd : FuncData) (args : Args) (binds : List (Str × Value)) : Prop where
  go : BindsTo s fd args binds
/-- the def as it lies in the heap -/
structure FdOk (K : Ctx) (h : Heap) (f : Addr) (Δ : De) (fn : Fn) (fd : FuncData) (body : List Stmt) : Prop where
  at_ : ∃ o, h.get? f = some o ∧ o.data = .func fd
  code : h.CodeRec fd.code fd.qualname
  isBody : fd.body = .stmts body
  globals : fd.globals = mainGlobals
  closure : fd.closure = []
  builtins : fd.builtins = builtinsNs
  ok : FnOk fd.scope Δ fn
  chk : chkSL K.cx fn.body fd.scope.names Δ body = true
  binds : ∀ (s : Shared) (vs : List Value), s.heap = h → vs.length = fn.n → BindsS s fd ⟨vs, []⟩ (((Δ.take fn.n).map (·.1)).zip vs)
noncomputable def FnIs (K : Ctx) (f : Addr) (Δ : De) (fn : Fn) : Prop := ∀ h, K.HP h → ∃ fd body, FdOk K h f Δ fn fd body

theorem slot_inj {Δ : De} (h : (Δ.map (·.2)).Nodup) {x y : Str} {i : Nat} (hx : (x, i) ∈ Δ) (hy : (y, i) ∈ Δ) : x = y := by
  induction Δ with
  | nil => cases hx
  | cons p r ih =>
    have h := List.nodup_cons.mp h
    have off : ∀ {z}, (z, i) ∈ r → p.2 ≠ i := fun hz e => h.1 (List.mem_map.mpr ⟨_, hz, e.symm⟩)
    exact (List.mem_cons.mp hx).elim (fun e => (List.mem_cons.mp hy).elim (fun e' => (Prod.mk.inj (e.trans e'.symm)).1) fun q => absurd (congrArg Prod.snd e).symm (off q)) fun q => (List.mem_cons.mp hy).elim (fun e' => absurd (congrArg Prod.snd e').symm (off q)) fun q' => ih h.2 q q'
section
variable {K : Ctx} {env : Env} {scope : Scope} {Δ : De} {fn : Fn} {s s₁ : Shared} {args : List PV} {vs : List Value} {O : List Addr}
/-- a call's environment -/
structure EnvIs (env : Env) (scope : Scope) (s : Shared) : Prop where
  isScope : env.scope = scope
  locals : env.locals = s.heap.objs.size
  cells : env.cells = cellsFrom (s.heap.objs.size + 1) scope.names []
  globals : env.globals = mainGlobals
  builtins : env.builtins = builtinsNs
theorem EnvIs.kind (e : EnvIs env scope s) (x : Str) : env.kindOf x = scope.names.lookup x := by unfold Env.kindOf; rw [e.isScope]
theorem cell_at (hn : (scope.names.map (·.1)).Nodup) {x : Str} {n : Nat} (h : scope.names.lookup x = some .cell) : ∃ c, (cellsFrom n scope.names []).lookup x = some c := let ⟨c, hc⟩ := cellsFrom_has (n := n) (mem_of_lookup h); ⟨c, lookup_of_mem (cellsFrom_nodup hn) hc⟩
theorem EnvIs.fresh (e : EnvIs env scope s) : ∀ a ∈ Mine.own env, s.heap.get? a = none := fun a ha => by
  have ck := cellsFrom_ok scope.names (s.heap.push { cls := .type "frame", data := .dict #[] }) (s.heap.objs.size + 1) [] ⟨fun _ _ hm => (nomatch hm), List.Pairwise.nil⟩ (by rw [Heap.size_push]; exact Nat.le_refl _)
  rw [Heap.size_push] at ck
  rcases List.mem_cons.mp ha with rfl | ha
  · rw [e.locals]; exact get_size _
  · obtain ⟨⟨m, c⟩, hm, rfl⟩ := List.mem_map.mp ha
    rw [e.cells] at hm
    exact new_ge (Nat.le_of_succ_le (ck.empty m c hm).2)
theorem EnvIs.frame (e : EnvIs env scope s) (o : FnOk scope Δ fn) : Frame env scope.names Δ s where
  kind := e.isScope ▸ o.kind
  globals := e.globals
  builtins := e.builtins
  gl := fun x hx => (e.kind x).trans hx
  clos := fun x hx => hx.elim (fun hx => let ⟨c, hc⟩ := cell_at (n := s.heap.objs.size + 1) o.nodup hx; ⟨.inl ((e.kind x).trans hx), c, e.cells ▸ hc⟩) fun hx => absurd rfl (o.nofree _ (mem_of_lookup hx))
  loc := fun x hx => (e.kind x).trans hx
  fresh := e.fresh
  sto := fun x i hx => (o.kinds _ (mem_of_lookup hx)).elim (fun h => .inl ((e.kind x).trans h)) fun h => let ⟨c, hc⟩ := cell_at (n := s.heap.objs.size + 1) o.nodup h; .inr ⟨(e.kind x).trans h, c, e.cells ▸ hc⟩
  inj := fun x y i hx hy => slot_inj o.slots (mem_of_lookup hx) (mem_of_lookup hy)
/-- the slots at first -/
noncomputable abbrev ρ0 (fn : Fn) (args : List PV) : PE := { vals := args.map some ++ List.replicate (fn.slots - fn.n) none }
theorem ρ0_get {i : Nat} {pv : PV} (h : (ρ0 fn args).get i = some pv) : args[i]? = some pv := bindE h fun w hw hu => by
  subst hu
  have hw : (args.map some ++ List.replicate (fn.slots - fn.n) none)[i]? = some (some pv) := hw
  rw [List.getElem?_append] at hw
  split at hw
  · rw [List.getElem?_map] at hw
    cases e : args[i]? with
    | none => rw [e] at hw; cases hw
    | some u => rw [e] at hw; exact Option.some.inj hw
  · rw [List.getElem?_replicate] at hw
    exact ifE hw fun _ h => nomatch h
/-- the parameter of a slot -/
theorem FnOk.param (o : FnOk scope Δ fn) {y : Str} {i : Nat} {v : Value} (hi : i < fn.n) (hy : Δ.lookup y = some i) (hv : vs[i]? = some v) : (y, v) ∈ ((Δ.take fn.n).map (·.1)).zip vs := by
  have h1 : ((Δ.take fn.n).map (·.2))[i]? = some i := by rw [o.first, List.getElem?_range hi]
  rw [List.getElem?_map] at h1
  obtain ⟨q, hq, e⟩ := Option.map_eq_some_iff.mp h1
  cases slot_inj o.slots (e ▸ List.mem_of_mem_take (List.mem_of_getElem? hq) : (q.1, i) ∈ Δ) (mem_of_lookup hy)
  exact List.mem_of_getElem? (i := i) (List.getElem?_zip_eq_some.mpr ⟨by rw [List.getElem?_map, hq]; rfl, hv⟩)
theorem FnOk.start (e : EnvIs env scope s) (o : FnOk scope Δ fn) (ic : InCallC s env.locals (bindL env.kindOf (((Δ.take fn.n).map (·.1)).zip vs) fun _ => none) env.cells (bindC env.kindOf (((Δ.take fn.n).map (·.1)).zip vs) fun _ => none) s₁) (hlen : args.length = fn.n) (hnd : ((((Δ.take fn.n).map (·.1)).zip vs).map (·.1)).Nodup) (hO : Alive O s.heap) (hr : RepL O s.heap vs args) : Fst env Δ s O (ρ0 fn args) [] s₁ := by
  have kp : Kp s s₁ := ⟨ic.toInCall.same, ic.toInCall.keep⟩
  refine ⟨kp, ⟨⟨_, ic.toInCall.ns⟩, fun m c hm => ⟨_, ic.cell m c (lookup_of_mem (e.cells ▸ cellsFrom_nodup o.nodup) hm)⟩, ic.apart⟩, fun y i pv hy hg => ?_, hO.keeps kp, allN, allN, no_own rfl, no_hown rfl, .inl rfl⟩
  have hi := ρ0_get hg
  obtain ⟨v, hv, hrep⟩ := hr.get hi
  have hb := o.param (hlen ▸ lt_of_get hi) hy hv
  refine ⟨v, (o.kinds _ (mem_of_lookup hy)).elim (fun h => .inl ⟨(e.kind y).trans h, _, ic.toInCall.ns, bindL_get _ _ _ _ hnd hb ((e.kind y).trans h)⟩) fun h => ?_, hrep.mono (fun a ha ⟨o', q⟩ hm => inE (l := Mine.own env) (r := O) hm (fun hm => nomatch (e.fresh a hm).symm.trans q) ha) fun _ _ _ q => kp.get q⟩
  obtain ⟨c, hc⟩ := cell_at (n := s.heap.objs.size + 1) o.nodup h
  have hlk : env.cells.lookup y = some c := e.cells ▸ hc
  have := ic.cell y c hlk
  rw [bindC_get _ _ _ _ hnd hb (by rw [e.kind, h]; exact fun q => nomatch q)] at this
  exact .inr ⟨.inl ((e.kind y).trans h), c, hlk, this⟩
theorem fn_code (C : KOk K) {f : Addr} {pv : PV} (hf : FnIs K f Δ fn) (hrun : run K.Γ fn args = some pv)
    {A : Around} {R : Result → Shared → Prop} (hA : AOk (K.n + 1) A) (hp : K.HP s.heap) (hO : Alive O s.heap) (hr : RepL O s.heap vs args) (hQ : ∀ v s', Kp s s' → Rep O s'.heap v pv → R (.ok (.ret v)) s') :
    codeAny (model K.prog K.w) A (.call (.ref f) ⟨vs, []⟩) R s := ifE hrun fun hlen hrun => bindE hrun fun out hex hout => by
  obtain ⟨fd, body, D⟩ := hf s.heap hp
  obtain ⟨od, ho, hd⟩ := D.at_
  have o := D.ok
  have hvl : vs.length = fn.n := hr.length.trans hlen
  have hnd : ((((Δ.take fn.n).map (·.1)).zip vs).map (·.1)).Nodup := by
    rw [List.map_fst_zip (by rw [hvl, List.length_map, List.length_take]; exact Nat.min_le_left ..), List.map_take]
    exact o.names.sublist (List.take_sublist _ _)
  have hkd : ∀ x ∈ ((Δ.take fn.n).map (·.1)).zip vs, fd.scope.names.lookup x.1 = some .local ∨ (fd.scope.names.lookup x.1 = some .cell ∧ ((cellsFrom (s.heap.objs.size + 1) fd.scope.names []).lookup x.1).isSome = true) := fun x hx => by
    obtain ⟨q, hq, e⟩ := List.mem_map.mp (List.of_mem_zip (a := x.1) (b := x.2) hx).1
    rw [← e]
    exact (o.kinds q (List.mem_of_mem_take hq)).imp id fun h => ⟨h, let ⟨c, hc⟩ := cell_at (n := s.heap.objs.size + 1) o.nodup h; hc ▸ rfl⟩
  refine codeAny_call_function (Nat.lt_of_le_of_lt (Nat.le_add_right _ _) hA.depth) ho hd o.cor o.gen D.isBody D.code ((D.binds s vs rfl hvl).go _ _ _ _ ?_)
  rw [D.closure]
  refine wpAny_newFunctionEnv_cells o.kind hkd fun env' he' s₁ ic => ?_
  subst he'
  refine ⟨(K.C.wd.lim _ hp).keeps ic.toInCall.keep, codeAny_func ?_⟩
  change InCallC s (callEnvC fd s.heap.objs.size f).locals (bindL (callEnvC fd s.heap.objs.size f).kindOf _ fun _ => none) (callEnvC fd s.heap.objs.size f).cells (bindC (callEnvC fd s.heap.objs.size f).kindOf _ fun _ => none) s₁ at ic
  change wpAny _ (A.deeper (callEnvC fd s.heap.objs.size f)) (execs body (callEnvC fd s.heap.objs.size f)) _ _ _
  have e : EnvIs (callEnvC fd s.heap.objs.size f) fd.scope s := ⟨rfl, rfl, rfl, D.globals, D.builtins⟩
  generalize callEnvC fd s.heap.objs.size f = env at ic e ⊢
  have hA' : AOk K.n (A.deeper env) := ⟨hA.handled, by have := hA.depth; show A.depth + 1 + K.n < _; omega, by have := hA.units; show A.units + 3 + 8 * K.n + 64 < _; omega⟩
  exact all_SL C fn.body ⟨fd.scope.names, Δ, ρ0 fn args, A.deeper env, O, [], env, s, s₁⟩ body out ⟨hA', hp, e.frame o, o.start e ic hlen hnd hO hr⟩ D.chk hex _ _ ⟨fun q => (nomatch q.symm.trans hout), fun pv' q u s' k r => hQ u s' k (Option.some.inj (q.symm.trans hout) ▸ r)⟩
theorem fn_ok (C : KOk K) {f : Addr} {pv : PV} (hf : FnIs K f Δ fn) (hrun : run K.Γ fn args = some pv) : CallOk K.prog K.w K.HP (K.n + 1) f args pv :=
  fun _ _ _ _ hA hp hO hr _ _ hQ => wpAny_call (fn_code C hf hrun hA hp hO hr hQ)
end
end Mine
end

-- R1
section
open PySem PyProof.Rows PySem.Calls PySem.Spec PySem.W
set_option maxRecDepth 100000
set_option autoImplicit false
namespace Mine

noncomputable def nameCode : Array Nat := #[14, 10, 4, 1, 1, 22, 0, 31, 16, 127, 0, 13, 7, 22, 0, 31, 16, 127, 0, 1]
noncomputable def valueCode : Array Nat := #[14, 14, 4, 1, 1, 9, 4294966783, 0, 0, 2147483648, 0, 0, 0, 0, 0, 13, 11, 9, 4294966783, 0, 0, 2147483648, 0, 0, 0, 0, 0, 1]
theorem inSet_name {c : Nat} (h : 32 ≤ c) (h' : c ≠ 127) (seen : Sre.Seen) : ∃ seen', Sre.inSet nameCode c nameCode.size 5 true seen = .ok (false, seen') := by
  have h1 : ¬ c ≤ 31 := by omega
  have h2 : (c == 127) = false := by simpa using h'
  refine ⟨((seen.add 22).add 16).add 0, ?_⟩
  show (if (decide (0 ≤ c) && decide (c ≤ 31)) = true then _ else if (c == 127) = true then _ else _) = _
  rw [if_neg (by simp [h1]), if_neg (by rw [h2]; decide)]
  rfl
theorem charset_ok : ∀ c : Nat, c < 256 → 32 ≤ c → c ≠ 127 → (valueCode.getD (5 + (1 + c / 32)) 0).testBit (c % 32) = false := by decide +kernel
theorem inSet_value {c : Nat} (h : 32 ≤ c) (h' : c ≠ 127) (seen : Sre.Seen) : ∃ seen', Sre.inSet valueCode c valueCode.size 5 true seen = .ok (false, seen') := by
  refine ⟨(seen.add 9).add 0, ?_⟩
  show (if (decide (c < 256) && (valueCode.getD (5 + (1 + c / 32)) 0).testBit (c % 32)) = true then _ else _) = _
  rw [if_neg]
  · rfl
  · simp only [Bool.and_eq_true, decide_eq_true_eq, not_and]
    intro hc
    rw [charset_ok c hc h h']
    decide
theorem admitted_none (m : Sre.M) (hset : ∀ c, 32 ≤ c → c ≠ 127 → ∀ seen, ∃ seen', Sre.inSet m.code c m.code.size 5 true seen = .ok (false, seen')) (hlim : m.lim = m.text.size) (ht : ∀ c ∈ m.text.toList, 32 ≤ c ∧ c ≠ 127) :
    ∀ (fuel s : Nat) (seen : Sre.Seen), ∃ seen', Sre.M.admitted m fuel s seen = .ok (none, seen')
  | 0, s, seen => ⟨seen, rfl⟩
  | fuel + 1, s, seen => by
    unfold Sre.M.admitted
    by_cases h : s ≥ m.lim
    · exact ⟨seen, by rw [if_pos h]⟩
    · rw [if_neg h]
      have hs : s < m.text.size := by omega
      have hc := ht m.text[s] (by simp)
      have e : m.text.getD s 0 = m.text[s] := by simp [Array.getD, hs]
      rw [e]
      obtain ⟨seen', h1⟩ := hset _ hc.1 hc.2 seen
      rw [h1]
      exact admitted_none m hset hlim ht fuel (s + 1) seen'
/-- a pattern of one set, as a search looks at it -/
structure OneSet (code : Array Nat) : Prop where
  head : Sre.header code = (1, code.getD 1 0 + 1)
  info : (match Sre.ops[code.getD 0 0]? with | some .INFO => true | _ => false) && code.getD 2 0 == 4
  set : ∀ c, 32 ≤ c → c ≠ 127 → ∀ seen, ∃ seen', Sre.inSet code c code.size 5 true seen = .ok (false, seen')
theorem name_one : OneSet nameCode := ⟨rfl, rfl, fun _ h h' s => inSet_name h h' s⟩
theorem value_one : OneSet valueCode := ⟨rfl, rfl, fun _ h h' s => inSet_value h h' s⟩
theorem attempt_none (m : Sre.M) {code : Array Nat} (hm : m.code = code) (hc : OneSet code) (hl : m.lim = m.text.size) (ht : ∀ c ∈ m.text.toList, 32 ≤ c ∧ c ≠ 127) (hf : m.frames = []) (ho : m.outcome = none) (b : Bool) :
    (m.attemptFrom 0 b).answer = some false ∧ (m.attemptFrom 0 b).frames = [] ∧ (m.attemptFrom 0 b).outcome = none := by
  subst hm
  have h1 : m.hasFirstSet = true := hc.info
  obtain ⟨seen', h2⟩ := admitted_none m hc.set hl ht (m.lim + 1 - 0) 0 m.seen
  unfold Sre.M.attemptFrom
  rw [h1, h2]
  exact ⟨rfl, hf, ho⟩
theorem search_none {code text : Array Nat} (hc : OneSet code) (ht : ∀ c ∈ text.toList, 32 ≤ c ∧ c ≠ 127) : (Sre.forSearch code text 0 0 text.size false).answer = some false ∧ (Sre.forSearch code text 0 0 text.size false).frames = [] ∧ (Sre.forSearch code text 0 0 text.size false).outcome = none := by
  unfold Sre.forSearch
  simp only [hc.head]
  split
  · exact ⟨rfl, rfl, rfl⟩
  · exact attempt_none _ rfl hc rfl ht rfl rfl true
theorem run_failed {m : Sre.M} (h1 : m.answer = some false) (h2 : m.frames = []) (h3 : m.outcome = none) (n : Nat) : m.runFor (n + 1) = { m with outcome := some .failed } := by
  have e : m.step = { m with outcome := some .failed } := by
    unfold Sre.M.step
    rw [if_neg (by rw [h3]; decide), h1, h2]
    rfl
  show (if m.outcome.isSome then m else Sre.M.runFor n m.step) = _
  rw [if_neg (by rw [h3]; decide), e]
  cases n with
  | zero => rfl
  | succ n => rfl
section
variable {prog : Program} {w : World} {A : Around} {s : Shared}
theorem drive_failed {M : Model} {E : Value → Shared → Prop} {m : Sre.M} (h1 : m.answer = some false) (h2 : m.frames = []) (h3 : m.outcome = none) {Q : Option Sre.M → Shared → Prop} (hQ : Q none s) : wpAny M A (Builtin.Re.reRunToEnd m) Q E s := by
  unfold Builtin.Re.reRunToEnd
  have e : Builtin.Re.reDrive (2 ^ 64) m = pure { m with outcome := some .failed } := by
    show Builtin.Re.reDrive (18446744073709551615 + 1) m = _
    unfold Builtin.Re.reDrive
    have := run_failed h1 h2 h3 3
    show (if (m.runFor (3 + 1)).outcome.isSome then pure (m.runFor (3 + 1)) else _) = _
    rw [this]
    rfl
  rw [e]
  refine wpAny_bind (wpAny_pure ?_)
  have loop : ∀ (l : List Nat) (f : Nat → PUnit → Sem (ForInStep PUnit)) (s : Shared) (Q : PUnit → Shared → Prop), (∀ i u, ∃ t, (f i u = (do rule t; pure (.yield ⟨⟩)) ∨ f i u = pure (.yield ⟨⟩))) → Q ⟨⟩ s → wpAny M A (forIn l ⟨⟩ f) Q E s := by
    intro l f
    induction l with
    | nil => intro s Q _ h; rw [List.forIn_nil]; exact wpAny_pure h
    | cons a l ih =>
      intro s Q hf h
      rw [List.forIn_cons]
      obtain ⟨t, e | e⟩ := hf a ⟨⟩
      · rw [e]; exact wpAny_bind (wpAny_bind (wpAny_rule (wpAny_pure (ih s Q hf h))))
      · rw [e]; exact wpAny_bind (wpAny_pure (ih s Q hf h))
  refine wpAny_bind (loop _ _ _ _ (fun i u => ?_) ?_)
  · refine ⟨Sre.names.getD i "", ?_⟩
    by_cases hi : ({ m with outcome := some Sre.Outcome.failed } : Sre.M).seen.has i = true
    · left; simp only [hi, if_true]
    · right; simp only [hi, if_false]; rfl
  · exact wpAny_pure hQ
end
end Mine
end

-- R2
section
open PySem PyProof.Rows PySem.Calls PySem.Spec PySem.W
set_option maxRecDepth 100000
set_option autoImplicit false
namespace Mine
theorem plain_pat : PlainAttrs "re.Pattern" :=
  ⟨⟨"object.__getattribute__", by rw [typeLookup_type, builtinLookup_eq_fast]; kernel_rfl, by decide +kernel⟩, by rw [typeLookup_type, builtinLookup_eq_fast]; kernel_rfl⟩
theorem slot_search : Slot "re.Pattern" "search" "re.Pattern.search" :=
  .of (owner := "re.Pattern") (n := "search") (by rw [typeLookup_type, builtinLookup_eq_fast]; kernel_rfl) (by decide +kernel) (by decide +kernel) (by decide +kernel)
    (by first | exact .inl (by decide +kernel) | exact .inr (by decide +kernel)) (by rw [isSubtype_type]; kernel_rfl)
theorem type_search : typeOf (.builtin "re.Pattern.search") = pure (.type "method_descriptor") := by show builtinType _ = _; rw [builtinType_eq_fast]; kernel_rfl
theorem entry_search : entryFor table "re.Pattern.search" = some Builtin.«re.Pattern.search» := entryFor_of_tree (by kernel_rfl)
theorem args_search (a b : Value) : argsOk "re.Pattern.search" ⟨[a, b], []⟩ := by unfold argsOk; kernel_rfl
theorem named_search (v : Value) : Builtin.Re.reNamed "re.Pattern.search" "search" ["string", "pos", "endpos"] 1 [v] [] = pure [some v, none, none] := by rfl
section
variable {prog : Program} {w : World} {A : Around} {E : Value → Shared → Prop} {s : Shared} {Q : Value → Shared → Prop}
theorem search_call {a ct : Addr} {p0 p1 : Value} {codes : Array Value} {k : Nat} {code : Array Nat} {x : Str} {t : Tok} (hp : s.heap.get? a = some { cls := .type "re.Pattern", data := .fields #[p0, p1, .int 0 0, .none, .none, .ref ct, .int 0 0] })
    (hct : s.heap.get? ct = some { cls := .type "tuple", data := .seq codes k }) (hcode : (codes.map Builtin.Re.reRawOf).map (·.toNat) = code) (hc : OneSet code) (ht : okText x = true) (hl : x.length < 4096) (hQ : Q .none s) :
    wpAny (model prog w) A (call (.builtin "re.Pattern.search") [.ref a, .str x t]) Q E s := by
  have hT : s.TypeIs (.ref a) "re.Pattern" := ⟨_, hp, rfl⟩
  refine wpAny_call_entry slot_search hT entry_search ?_ (args_search _ _)
  show wpAny _ _ (Builtin.Re.reTarget "re.Pattern.search" "search" ⟨[.ref a, .str x t], []⟩ >>= fun t => Builtin.Re.reAnswer t (Sre.forSearch t.code t.text t.groups t.pos t.lim false)) _ _ s
  refine wpAny_bind ?_
  unfold Builtin.Re.reTarget
  dsimp only
  rw [named_search]
  refine wpAny_bind (wpAny_pure ?_)
  dsimp only
  refine wpAny_bind (wpAny_pure (wpAny_bind (wpAny_pure ?_)))
  refine wpAny_bind ?_
  unfold fieldsOf
  refine wpAny_bind (wpAny_load hp (wpAny_pure ?_))
  unfold Builtin.Re.reTextOf asStr?
  refine wpAny_bind (wpAny_bind (wpAny_pure (wpAny_pure ?_)))
  dsimp only
  unfold Builtin.Re.reNoCollectionInside
  unfold Builtin.Re.reRawItems seqItems?
  have e1 : Builtin.Re.reRawNat ((#[p0, p1, Value.int 0 0, Value.none, Value.none, Value.ref ct, Value.int 0 0] : Array Value).getD 6 Value.none) = 0 := rfl
  rw [e1]
  rw [if_neg (show ¬ ((0 == 0 && 0 == 1) = true) by decide)]
  rw [if_neg (show ¬ ((0 == 1 && 0 == 0) = true) by decide)]
  rw [if_neg (show ¬ ((0 == 1) = true) by decide)]
  refine wpAny_bind (wpAny_pure (wpAny_bind (wpAny_bind ?_)))
  refine wpAny_bind (wpAny_load hct (wpAny_pure ?_))
  refine wpAny_pure (wpAny_pure ?_)
  have hlim : min ((2 ^ 63 - 1 : Int)).toNat x.cps.size = x.cps.size := Nat.min_eq_right (by
    have h1 : x.cps.size < 4096 := hl
    have h2 : ((2 ^ 63 - 1 : Int)).toNat = 9223372036854775807 := by decide
    omega)
  show wpAny _ _ (Builtin.Re.reAnswer _ (Sre.forSearch ((codes.map Builtin.Re.reRawOf).map (·.toNat)) x.cps _ (min (Int.toNat 0) x.cps.size) (min ((2 ^ 63 - 1 : Int)).toNat x.cps.size) false)) _ _ _
  rw [hcode, hlim, show min (Int.toNat 0) x.cps.size = 0 from Nat.zero_min _]
  have htt : ∀ c ∈ x.cps.toList, 32 ≤ c ∧ c ≠ 127 := by
    intro c hm
    unfold okText at ht
    rw [Array.all_eq_true] at ht
    obtain ⟨i, hi, rfl⟩ := List.getElem_of_mem hm
    have := ht i (by simpa using hi)
    simpa using this
  obtain ⟨s1, s2, s3⟩ := search_none hc htt
  unfold Builtin.Re.reAnswer
  refine wpAny_bind (drive_failed s1 s2 s3 ?_)
  exact wpAny_pure ⟨_, rfl, hQ⟩
end
end Mine
end

-- RB
section
open PySem PyProof.Rows PySem.Calls PySem.Spec PySem.W
set_option maxRecDepth 100000
set_option autoImplicit false
namespace Mine
/-- a def's parameters: the plain names, and the defaults -/
structure Par (fd : FuncData) (names : List Str) (ko : List Arg) (d : Value) (kw : Option Arg) : Prop where
  po : fd.params.posonlyargs = []
  ar : fd.params.args.map (·.arg) = names
  ko : fd.params.kwonlyargs = ko
  va : fd.params.vararg = none
  kw : fd.params.kwarg = kw
  df : fd.defaults = d
noncomputable def fdP (fd : FuncData) (ps ko : List Arg) (d : Value) (kw : Option Arg) : FuncData := { fd with params := ⟨[], ps, none, ko, fd.params.kw_defaults, kw, fd.params.defaults⟩, defaults := d }
theorem Par.eta {fd : FuncData} {names : List Str} {ko : List Arg} {d : Value} {kw : Option Arg} (P : Par fd names ko d kw) : fd = fdP fd fd.params.args ko d kw := by
  obtain ⟨po, ar, hko, va, hkw, df⟩ := P
  obtain ⟨n1, n2, ps, n4, n5, n6, n7, n8, n9, n10, n11, n12, n13, n14, n15⟩ := fd
  obtain ⟨p1, p2, p3, p4, p5, p6, p7⟩ := ps
  cases po
  cases hko
  cases va
  cases hkw
  cases df
  rfl
@[elab_as_elim] theorem len1E {α : Type} {vs : List α} {P : List α → Prop} (h : vs.length = 1) (k : ∀ v, P [v]) : P vs := by
  match vs, h with
  | [v], _ => exact k v
@[elab_as_elim] theorem len2E {α : Type} {vs : List α} {P : List α → Prop} (h : vs.length = 2) (k : ∀ v w, P [v, w]) : P vs := by
  match vs, h with
  | [v, w], _ => exact k v w
@[elab_as_elim] theorem len3E {α : Type} {vs : List α} {P : List α → Prop} (h : vs.length = 3) (k : ∀ v w x, P [v, w, x]) : P vs := by
  match vs, h with
  | [v, w, x], _ => exact k v w x
section
variable {ps : List Arg} {a b c : Str} {P : List Arg → Prop}
@[elab_as_elim] theorem args1E (h : ps.map (·.arg) = [a]) (k : ∀ x p, P [⟨a, x, p⟩]) : P ps := len1E (P := fun ps => ps.map (·.arg) = [a] → P ps) ((List.length_map _).symm.trans (congrArg List.length h)) (fun ⟨_, x, p⟩ h => by cases h; exact k x p) h
@[elab_as_elim] theorem args2E (h : ps.map (·.arg) = [a, b]) (k : ∀ x p y q, P [⟨a, x, p⟩, ⟨b, y, q⟩]) : P ps := len2E (P := fun ps => ps.map (·.arg) = [a, b] → P ps) ((List.length_map _).symm.trans (congrArg List.length h)) (fun ⟨_, x, p⟩ ⟨_, y, q⟩ h => by cases h; exact k x p y q) h
@[elab_as_elim] theorem args3E (h : ps.map (·.arg) = [a, b, c]) (k : ∀ x p y q z r, P [⟨a, x, p⟩, ⟨b, y, q⟩, ⟨c, z, r⟩]) : P ps := len3E (P := fun ps => ps.map (·.arg) = [a, b, c] → P ps) ((List.length_map _).symm.trans (congrArg List.length h)) (fun ⟨_, x, p⟩ ⟨_, y, q⟩ ⟨_, z, r⟩ h => by cases h; exact k x p y q z r) h
end
/-- a call with all of these names binds them so -/
noncomputable def Bnd (names : List Str) : Prop := ∀ (fd : FuncData) (ps : List Arg) (vs : List Value), ps.map (·.arg) = names → vs.length = names.length → bindArgs (fdP fd ps [] .none none) ⟨vs, []⟩ = pure (names.zip vs)
theorem Bnd.s {names : List Str} (b : Bnd names) {fd : FuncData} (P : Par fd names [] .none none) {vs : List Value} {s : Shared} (hl : vs.length = names.length) : BindsS s fd ⟨vs, []⟩ (names.zip vs) := ⟨P.eta ▸ BindsTo.of_eq (b fd _ vs P.ar hl)⟩
end Mine
end

-- R3
section
open PySem PyProof.Rows PySem.Calls PySem.Spec PySem.W
set_option maxRecDepth 100000
set_option autoImplicit false
set_option genSizeOf false
set_option genInjectivity false
namespace Mine
/-! what is looked at in the heap behind the text -/
noncomputable def dataFn (d : Data) : Option FuncData := if h : d.ctorIdx = 7 then Data.func.elim (motive := fun _ => Option FuncData) d h some else none
theorem dataFn_inv {d : Data} {fd : FuncData} (h : dataFn d = some fd) : d = .func fd := by
  cases d <;> first | exact none_some h | exact congrArg Data.func (Option.some.inj h)
noncomputable def dataSeq (d : Data) : Option (Array Value × Nat) := if h : d.ctorIdx = 2 then Data.seq.elim (motive := fun _ => Option (Array Value × Nat)) d h fun a n => some (a, n) else none
theorem dataSeq_inv {d : Data} {q : Array Value × Nat} (h : dataSeq d = some q) : d = .seq q.1 q.2 := by
  cases d <;> first | exact none_some h | (cases Option.some.inj h; rfl)
noncomputable def dataFields (d : Data) : Option (Array Value) := if h : d.ctorIdx = 9 then Data.fields.elim (motive := fun _ => Option (Array Value)) d h some else none
theorem dataFields_inv {d : Data} {a : Array Value} (h : dataFields d = some a) : d = .fields a := by
  cases d <;> first | exact none_some h | exact congrArg Data.fields (Option.some.inj h)
noncomputable def bodyOf (b : FuncBody) : Option (List Stmt) := if h : b.ctorIdx = 0 then FuncBody.stmts.elim (motive := fun _ => Option (List Stmt)) b h some else none
theorem bodyOf_inv {b : FuncBody} {l : List Stmt} (h : bodyOf b = some l) : b = .stmts l := by
  cases b <;> first | exact none_some h | exact congrArg FuncBody.stmts (Option.some.inj h)
noncomputable def intOf (v : Value) : Option Int := if h : v.ctorIdx = 4 then Value.int.elim (motive := fun _ => Option Int) v h fun i _ => some i else none
theorem intOf_inv {v : Value} {i : Int} (h : intOf v = some i) : ∃ t, v = .int i t := by
  cases v <;> first | exact none_some h | exact ⟨_, congrArg (Value.int · _) (Option.some.inj h)⟩
noncomputable def refOf (v : Value) : Option Addr := if h : v.ctorIdx = 10 then Value.ref.elim (motive := fun _ => Option Addr) v h some else none
theorem refOf_inv {v : Value} {i : Addr} (h : refOf v = some i) : v = .ref i := by
  cases v <;> first | exact none_some h | exact congrArg Value.ref (Option.some.inj h)
theorem o1O {α : Type} {o : Option α} {k : α → Bool} {P : Prop} (h : o1 o k = true) (f : ∀ a, o = some a → k a = true → P) : P := by
  cases o with
  | none => exact nomatch h
  | some a => exact f a rfl h

/-- a def's object -/
noncomputable def fdK (K : Frag) (a : Addr) : Option FuncData := (K.lookup a).bind fun o => dataFn o.data
structure FdIn (K : Frag) (a : Addr) (fd : FuncData) (body : List Stmt) : Prop where
  at_ : fdK K a = some fd
  code : codeIn K fd.code fd.qualname = true
  isBody : fd.body = .stmts body
  globals : fd.globals = mainGlobals
  closure : fd.closure = []
  builtins : fd.builtins = builtinsNs
theorem fdK_at {K : Frag} {h : Heap} {a : Addr} {fd : FuncData} (X : K.In h) (e : fdK K a = some fd) : ∃ o, h.get? a = some o ∧ o.data = .func fd := bindE e fun o ho e => ⟨o, X _ _ ho, dataFn_inv e⟩
noncomputable def fdChk (K : Frag) (a : Addr) (k : FuncData → List Stmt → Bool) : Bool := o1 (fdK K a) fun fd => o1 (bodyOf fd.body) fun body => codeIn K fd.code fd.qualname && (decide (fd.globals = mainGlobals ∧ fd.closure = [] ∧ fd.builtins = builtinsNs) && k fd body)
theorem fdChkE {K : Frag} {a : Addr} {k : FuncData → List Stmt → Bool} {P : Prop} (h : fdChk K a k = true) (f : ∀ fd body, FdIn K a fd body → k fd body = true → P) : P :=
  o1O h fun fd h1 h => o1O h fun body h2 h => let ⟨a, b, c⟩ := of_decide_eq_true (and1 (and2 h)); f fd body ⟨h1, and1 h, bodyOf_inv h2, a, b, c⟩ (and2 (and2 h))
/-- plain parameters -/
noncomputable def parB (fd : FuncData) (names : List Str) (k : List Arg → Option Arg → Bool) : Bool := fd.params.posonlyargs.isEmpty && (decide (fd.params.args.map (·.arg) = names) && (fd.params.vararg.isNone && k fd.params.kwonlyargs fd.params.kwarg))
theorem parE {fd : FuncData} {names : List Str} {k : List Arg → Option Arg → Bool} {P : Prop} (h : parB fd names k = true) (f : ∀ ko kw, Par fd names ko fd.defaults kw → k ko kw = true → P) : P :=
  f _ _ ⟨List.isEmpty_iff.mp (and1 h), of_decide_eq_true (and1 (and2 h)), rfl, Option.isNone_iff_eq_none.mp (and1 (and2 (and2 h))), rfl, rfl⟩ (and2 (and2 (and2 h)))
/-- the default of one parameter, as a tuple of one -/
noncomputable def oneDef (K : Frag) (d : Value) : Bool := o1 (refOf d) fun T => o1 (K.lookup T) fun o => o1 (dataSeq o.data) fun q => decide (q.1.toList = [Value.none])
theorem oneDef_at {K : Frag} {d : Value} (h : oneDef K d = true) : ∃ T n, d = .ref T ∧ ∀ h, K.In h → ∃ o, h.get? T = some o ∧ o.data = .seq #[.none] n :=
  o1O h fun T h1 h => o1O h fun o h2 h => o1O h fun q h3 h => ⟨T, q.2, refOf_inv h1, fun h' X => ⟨o, X _ _ h2, (dataSeq_inv h3).trans (congrArg (Data.seq · q.2) (Array.ext' (of_decide_eq_true h)))⟩⟩

noncomputable def Dn.names (e : Dn) : List Str := (e.Δ.take e.fn.n).map (·.1)
noncomputable def cx0 : Cx := ⟨fun i => ((tab[i]?).map (·.name)).getD Str.empty, [("_MAX_STRING_SIZE", 40), ("_MOVE_COST", 2), ("_CASE_COST", 1)]⟩
noncomputable def dnChk (K : Frag) (e : Dn) : Bool := fdChk K e.a fun fd body => parB fd e.names (fun ko kw => ko.isEmpty && kw.isNone) && ((cond (decide (e.a = 187)) (oneDef K fd.defaults) (decide (fd.defaults = .none))) && (fnChk fd.scope e.Δ e.fn && chkSL cx0 e.fn.body fd.scope.names e.Δ body))
/-- a pattern of one set -/
noncomputable def patChk (K : Frag) (a ct : Addr) (code : List Nat) : Bool :=
  o1 (K.lookup a) (fun o => o1 (dataFields o.data) fun vs => decide (o.cls = .type "re.Pattern" ∧ o.dict = none ∧ o.slots.toList = [] ∧ vs.toList = [vs.getD 0 .none, vs.getD 1 .none, .int 0 0, .none, .none, .ref ct, .int 0 0])) &&
  o1 (K.lookup ct) fun o => o1 (dataSeq o.data) fun q => decide (o.cls = .type "tuple" ∧ o.dict = none ∧ o.slots.toList = [] ∧ q.1.toList.map (fun v => (Builtin.Re.reRawOf v).toNat) = code)
structure PatAt (h : Heap) (a ct : Addr) (code : Array Nat) : Prop where
  at_ : ∃ p0 p1 codes k, h.get? a = some { cls := .type "re.Pattern", data := .fields #[p0, p1, .int 0 0, .none, .none, .ref ct, .int 0 0] } ∧ h.get? ct = some { cls := .type "tuple", data := .seq codes k } ∧ (codes.map Builtin.Re.reRawOf).map (·.toNat) = code
theorem obj_is {o : Obj} {c : Value} {d : Data} (h1 : o.cls = c) (h2 : o.dict = none) (h3 : o.slots.toList = []) (h4 : o.data = d) : o = { cls := c, data := d } := by
  obtain ⟨a, b, c', ⟨l⟩⟩ := o
  cases h1
  cases h2
  cases h3
  cases h4
  rfl
theorem pat_at {K : Frag} {h : Heap} {a ct : Addr} {code : List Nat} (X : K.In h) (e : patChk K a ct code = true) : PatAt h a ct code.toArray :=
  o1O (and1 e) fun o h1 e1 => o1O e1 fun vs h2 e1 => o1O (and2 e) fun o' h3 e2 => o1O e2 fun q h4 e2 =>
    let ⟨a1, a2, a3, a4⟩ := of_decide_eq_true e1
    let ⟨b1, b2, b3, b4⟩ := of_decide_eq_true e2
    ⟨_, _, q.1, q.2, (X _ _ h1).trans (congrArg some (obj_is a1 a2 a3 ((dataFields_inv h2).trans (congrArg Data.fields (Array.ext' a4))))), (X _ _ h3).trans (congrArg some (obj_is b1 b2 b3 (dataSeq_inv h4))), Array.ext' (by rw [Array.toList_map, Array.toList_map, List.map_map]; exact b4)⟩
noncomputable def lookB (names : List (Str × NameKind)) (l : List (Str × NameKind)) : Bool := decide (∀ p ∈ l, names.lookup p.1 = some p.2)
noncomputable def plainScope (s : Scope) : Bool := decide (s.kind = .function ∧ s.isGenerator = false ∧ s.isCoroutine = false)

/-- built-ins' names that the text does not bind -/
noncomputable def noneNames : List Str := ["sum", "len", "abs", "int", "divmod", "chr", "ord", "min", "max", "sorted", "list", "range", "zip", "enumerate", "type", "str"]
/-- the class, and what is found along it -/
structure ClsIs (K : Frag) : Prop where
  h : ∀ p ∈ hTable, findIn K (.ref 240) p.1 = some (some (.ref p.2)) ∧ typeIn K (.ref p.2) = some (.type "function") ∧ p.1 ≠ "_headers" ∧ (fdK K p.2).isSome = true
  ga : findIn K (.ref 240) "__getattribute__" = some (some (.builtin "object.__getattribute__"))
  gt : findIn K (.ref 240) "__getattr__" = some none
  hd : findIn K (.ref 240) "_headers" = some none
  sa : findIn K (.ref 240) "__setattr__" = some (some (.builtin "object.__setattr__"))
  ini : findIn K (.ref 240) "__init__" = some (some (.ref 132))
  fn : typeIn K (.ref 132) = some (.type "function")
  dict : (clsIn K 240).any (·.hasDict) = true
  keep : keepIn K (.ref 240) = true
  makes : makesIn K 240 = true
  plain : plainOver K 240 = true
  taker : takerIn K 240 "_headers" = some none
noncomputable def clsChk (K : Frag) : Bool := decide ((∀ p ∈ hTable, findIn K (.ref 240) p.1 = some (some (.ref p.2)) ∧ typeIn K (.ref p.2) = some (.type "function") ∧ p.1 ≠ "_headers" ∧ (fdK K p.2).isSome = true) ∧
  findIn K (.ref 240) "__getattribute__" = some (some (.builtin "object.__getattribute__")) ∧ findIn K (.ref 240) "__getattr__" = some none ∧ findIn K (.ref 240) "_headers" = some none ∧ findIn K (.ref 240) "__setattr__" = some (some (.builtin "object.__setattr__")) ∧
  findIn K (.ref 240) "__init__" = some (some (.ref 132)) ∧ typeIn K (.ref 132) = some (.type "function") ∧ (clsIn K 240).any (·.hasDict) = true ∧ keepIn K (.ref 240) = true ∧ makesIn K 240 = true ∧ plainOver K 240 = true ∧ takerIn K 240 "_headers" = some none)
theorem cls_is {K : Frag} (h : clsChk K = true) : ClsIs K := let ⟨a, b, c, d, e, f, g, h, i, j, k, l⟩ := of_decide_eq_true h; ⟨a, b, c, d, e, f, g, h, i, j, k, l⟩
noncomputable def namesChk (K : Frag) : Bool := decide ((∀ x ∈ noneNames, nsIn K mainGlobals x = some none) ∧ (∀ e ∈ tab.take 23, nsIn K mainGlobals e.name = some (some (.ref e.a))) ∧
  nsIn K mainGlobals "Headers" = some (some (.ref 240)) ∧ nsIn K mainGlobals "_name_disallowed_re" = some (some (.ref 104)) ∧ nsIn K mainGlobals "_value_disallowed_re" = some (some (.ref 109)) ∧ ∀ p ∈ cx0.gl, ((nsIn K mainGlobals p.1).bind fun v => v.bind intOf) = some p.2)
end Mine
end

-- R4
section
open PySem PyProof.Rows PySem.Calls PySem.Spec PySem.W
set_option maxRecDepth 100000
set_option autoImplicit false
set_option genSizeOf false
set_option genInjectivity false
set_option maxHeartbeats 1000000
namespace Mine
structure HPk (K : Frag) (mg mb : Str → Option Value) (h : Heap) : Prop where
  k : K.In h
  g : h.Ns mainGlobals mg
  b : h.Ns builtinsNs mb
  lim : h.NoLimit
theorem ns_some_of {K : Frag} {h : Heap} {N : Addr} {mg : Str → Option Value} {n : Str} {v : Value} (X : K.In h) (G : h.Ns N mg) (e : nsIn K N n = some (some v)) : mg n = some v := by
  obtain ⟨o, es, ep, ho, hd, _, hf⟩ := G
  unfold nsIn at e
  split at e
  · rename_i c d es' n' sl q
    have := X _ _ q
    rw [ho] at this
    cases this
    cases hd
    split at e
    · rename_i en he
      cases e
      rw [← hf]
      unfold nsFind findBy
      rw [← Array.find?_toList, he]
      rfl
    · split at e <;> cases e
  · cases e
theorem wdK (K : Frag) (mg mb : Str → Option Value) : Wd (HPk K mg mb) mg mb where
  mono := fun h h' k x => ⟨fun a o e => k _ _ (x.k a o e), x.g.keeps k, x.b.keeps k, x.lim.keeps k⟩
  g := fun _ x => x.g
  b := fun _ x => x.b
  lim := fun _ x => x.lim
section
variable {α : Type}
noncomputable def l3 (xs : List α) (k : α → α → α → Bool) : Bool := List.casesOn (motive := fun _ => Bool) xs false fun a r => l2 r (k a)
@[elab_as_elim] theorem l3E {xs : List α} {k : α → α → α → Bool} {P : List α → Prop} (h : l3 xs k = true) (f : ∀ a b c, k a b c = true → P [a, b, c]) : P xs := by
  cases xs with
  | nil => exact nomatch h
  | cons a r => exact l2E (P := fun r => P (a :: r)) h (f a)
end
noncomputable def nameIs (t : Expr) (x : Str) : Bool := onName t fun y _ => decide (y = x)
@[elab_as_elim] theorem nameIsE {t : Expr} {x : Str} {P : Expr → Prop} (h : nameIs t x = true) (f : ∀ p, P (.Name x p)) : P t := onNameE h fun y p h => (of_decide_eq_true h : y = x) ▸ f p
/-- a call of a name on a name -/
noncomputable def call1 (t : Expr) (f a : Str) : Bool := onCall t fun g args kws _ => l0 kws (l1 args fun b => nameIs g f && nameIs b a)
@[elab_as_elim] theorem call1E {t : Expr} {f a : Str} {P : Expr → Prop} (h : call1 t f a = true) (k : ∀ p q r, P (.Call (.Name f p) [.Name a q] [] r)) : P t :=
  onCallE h fun g args kws r h => l0E (P := fun kws => P (.Call g args kws r)) h fun h => l1E (P := fun args => P (.Call g args [] r)) h fun b h => nameIsE (P := fun g => P (.Call g [b] [] r)) (and1 h) fun p => nameIsE (P := fun b => P (.Call (.Name f p) [b] [] r)) (and2 h) fun q => k p q r
/-- a comparison of two -/
noncomputable def cmp1 (t : Expr) (op : CmpOp) (k : Expr → Expr → Bool) : Bool := onCompare t fun l os rs _ => l1 os fun o => l1 rs fun r => o == op && k l r
@[elab_as_elim] theorem cmp1E {t : Expr} {op : CmpOp} {k : Expr → Expr → Bool} {P : Expr → Prop} (h : cmp1 t op k = true) (f : ∀ l r p, k l r = true → P (.Compare l [op] [r] p)) : P t :=
  onCompareE h fun l os rs p h => l1E (P := fun os => P (.Compare l os rs p)) h fun o h => l1E (P := fun rs => P (.Compare l [o] rs p)) h fun r h => beqE (P := fun o => P (.Compare l [o] [r] p)) h fun h => f l r p h
/-- a method of a term on one argument, on one line -/
noncomputable def meth1 (t : Expr) (nm : Str) (k : Expr → Expr → Bool) : Bool := onCall t fun g args kws pos => l0 kws (l1 args fun b => onAttribute g fun o n apos => decide (n = nm ∧ apos.endLine = pos.line) && k o b)
@[elab_as_elim] theorem meth1E {t : Expr} {nm : Str} {k : Expr → Expr → Bool} {P : Expr → Prop} (h : meth1 t nm k = true) (f : ∀ o b apos pos, apos.endLine = pos.line → k o b = true → P (.Call (.Attribute o nm apos) [b] [] pos)) : P t :=
  onCallE h fun g args kws pos h => l0E (P := fun kws => P (.Call g args kws pos)) h fun h => l1E (P := fun args => P (.Call g args [] pos)) h fun b h => onAttributeE (P := fun g => P (.Call g [b] [] pos)) h fun o n apos h => let ⟨e, e'⟩ := of_decide_eq_true (and1 h); e ▸ f o b apos pos e' (and2 h)
/-- one name is assigned a term -/
noncomputable def asgIs (s : Stmt) (x : Str) (k : Expr → Bool) : Bool := onAssign s fun ts v _ => l1 ts fun t => nameIs t x && k v
@[elab_as_elim] theorem asgIsE {s : Stmt} {x : Str} {k : Expr → Bool} {P : Stmt → Prop} (h : asgIs s x k = true) (f : ∀ p v pos, k v = true → P (.Assign [.Name x p] v pos)) : P s :=
  onAssignE h fun ts v pos h => l1E (P := fun ts => P (.Assign ts v pos)) h fun t h => nameIsE (P := fun t => P (.Assign [t] v pos)) (and1 h) fun p => f p v pos (and2 h)
/-- a test with no other branch -/
noncomputable def ifIs (s : Stmt) (k : Expr → List Stmt → Bool) : Bool := onIf s fun t b els _ => l0 els (k t b)
@[elab_as_elim] theorem ifIsE {s : Stmt} {k : Expr → List Stmt → Bool} {P : Stmt → Prop} (h : ifIs s k = true) (f : ∀ t b p, k t b = true → P (.If t b [] p)) : P s := onIfE h fun t b els p h => l0E (P := fun els => P (.If t b els p)) h fun h => f t b p h

section
variable {K : Frag} {mg mb : Str → Option Value} {prog : Program} {w : World} {A : Around} {E : Value → Shared → Prop} {s : Shared}
/-- into a def, whatever its arguments -/
theorem enter_fn {R : Result → Shared → Prop} {a : Addr} {fd : FuncData} {body : List Stmt} {args : Args}
    (hroom : A.depth < recursionLimit) (H : HPk K mg mb s.heap) (D : FdIn K a fd body) (hs : plainScope fd.scope = true)
    (h : wpAny (model prog w) A.in1 (bindArgs fd args) (fun binds s' => Kp s s' ∧ (∀ x ∈ binds, fd.scope.names.lookup x.1 = some .local) ∧ ∀ s₁, InCallC s' (callEnvC fd s'.heap.objs.size a).locals (bindL (callEnvC fd s'.heap.objs.size a).kindOf binds fun _ => none) (callEnvC fd s'.heap.objs.size a).cells
        (bindC (callEnvC fd s'.heap.objs.size a).kindOf binds fun _ => none) s₁ →
      wpAny (model prog w) (A.deeper (callEnvC fd s'.heap.objs.size a)) (execs body (callEnvC fd s'.heap.objs.size a)) (fun f s' => R (.ok (.ret (match f with | .ret v => v | _ => .none))) s')
        (fun e s'' => wpAny (model prog w) (A.deeper (callEnvC fd s'.heap.objs.size a)) (leaving (callEnvC fd s'.heap.objs.size a) e) (fun _ s'' => R (.error e) s'') (fun e' s'' => R (.error e') s'') s'') s₁) (fun e s' => R (.error e) s') s) :
    codeAny (model prog w) A (.call (.ref a) args) R s := by
  obtain ⟨o, ho, hd⟩ := fdK_at H.k D.at_
  obtain ⟨hk, hg, hc⟩ := of_decide_eq_true hs
  refine codeAny_call_function hroom ho hd hc hg D.isBody (codeRec_of H.k D.code) (wpAny_mono h (fun binds s' h' => ?_) fun _ _ e => e)
  obtain ⟨k, hb, h'⟩ := h'
  rw [D.closure]
  refine wpAny_newFunctionEnv_cells hk (fun x hx => .inl (hb x hx)) fun env he s₁ x => ?_
  subst he
  exact ⟨(H.lim.keeps k.keep).keeps x.toInCall.keep, codeAny_func (h' s₁ x)⟩

/-- the names of the text's globals and of the built-ins that are asked for -/
structure NmIs (K : Frag) (mg mb : Str → Option Value) : Prop where
  none : ∀ x ∈ noneNames, mg x = none ∧ mb x = bootBuiltins x
  defs : ∀ e ∈ tab.take 23, mg e.name = some (.ref e.a)
  hd : mg "Headers" = some (.ref 240)
  g1 : mg "_name_disallowed_re" = some (.ref 104)
  g2 : mg "_value_disallowed_re" = some (.ref 109)
  gl : ∀ p ∈ cx0.gl, ∃ t, mg p.1 = some (.int p.2 t)
theorem nm_of {h : Heap} (H : HPk K mg mb h) (hb : ∀ x : Str, x ≠ "__name__" → mb x = bootBuiltins x) (e : namesChk K = true) : NmIs K mg mb :=
  let ⟨a, b, c, d, f, g⟩ := of_decide_eq_true e
  ⟨fun x hx => ⟨ns_none_of H.k H.g (a x hx), hb x fun q => absurd (q ▸ hx) (by decide +kernel)⟩, fun e he => ns_some_of H.k H.g (b e he), ns_some_of H.k H.g c, ns_some_of H.k H.g d, ns_some_of H.k H.g f,
    fun p hp => bindE (g p hp) fun o ho q => bindE q fun v hv q => let ⟨t, e⟩ := intOf_inv q; ⟨t, ns_some_of H.k H.g (by rw [ho, hv, e])⟩⟩

/-! the method that looks a text over -/
noncomputable def convBody (body : List Stmt) : Bool := l2 body fun s1 _ => ifIs s1 fun t b => cmp1 t .Is (fun l r => call1 l "type" "value" && nameIs r "str") && l3 b fun a c d =>
  asgIs a "regex" (fun v => onIfExp v fun x y z _ => nameIs x "name" && (nameIs y "_name_disallowed_re" && nameIs z "_value_disallowed_re")) &&
  (ifIs c (fun t _ => meth1 t "search" fun o b => nameIs o "regex" && nameIs b "value") && onReturn d fun v _ => o1 v fun v => nameIs v "value")
noncomputable def convNames : List (Str × NameKind) := [("self", .local), ("value", .local), ("name", .local), ("regex", .local), ("type", .globalImplicit), ("str", .globalImplicit), ("_name_disallowed_re", .globalImplicit), ("_value_disallowed_re", .globalImplicit)]
noncomputable def convChk (K : Frag) : Bool := fdChk K 139 fun fd body => parB fd ["self", "value"] (fun ko kw => kw.isNone && decide (ko.map (·.arg) = [Str.ofString "name"])) && (decide (fd.defaults = .none) && (plainScope fd.scope &&
  (lookB fd.scope.names convNames && convBody body)))
structure ConvEnv (env : Env) : Prop where
  kind : env.scope.kind = .function
  globals : env.globals = mainGlobals
  builtins : env.builtins = builtinsNs
  v : env.kindOf "value" = some .local
  n : env.kindOf "name" = some .local
  r : env.kindOf "regex" = some .local
  t : env.kindOf "type" = some .globalImplicit
  st : env.kindOf "str" = some .globalImplicit
  g1 : env.kindOf "_name_disallowed_re" = some .globalImplicit
  g2 : env.kindOf "_value_disallowed_re" = some .globalImplicit
/-- a local's value -/
theorem loc_ok {env : Env} {m : Str → Option Value} {x : Str} {p : Pos} {v : Value} {Q E : Value → Shared → Prop} (hk : env.scope.kind = .function) (hx : env.kindOf x = some .local) (hn : s.heap.Ns env.locals m) (hv : m x = some v) (hd : (x == ("__debug__" : Str)) = false) (h : Q v s) : wpAny (model prog w) A (eval (.Name x p) env) Q E s :=
  wpAny_Name (wpAny_loadName_local hk hx hn hv h) hd
theorem call_Name1 {f a : Str} {p q r : Pos} {env : Env} {Q E : Value → Shared → Prop} (h : wpAny (model prog w) A (eval (.Name f p) env) (fun g s₁ => wpAny (model prog w) A (callWith r g [] (backTo r (starEach [.Name a q] env)) []) Q E s₁) E s) : wpAny (model prog w) A (eval (.Call (.Name f p) [.Name a q] [] r) env) Q E s := wpAny_bind h
theorem args_one {f : Value} {x : Sem Value} {Q : Args → Shared → Prop} {E : Value → Shared → Prop} (h : wpAny (model prog w) A x (fun v s' => Q ⟨[v], []⟩ s') E s) : wpAny (model prog w) A (evalArgs f true [(false, x)] []) Q E s :=
  evalArgs_plain (spliced_cons (wpAny_mono h (fun _ _ h => spliced_nil h) fun _ _ h => h))
theorem conv_body {env : Env} {body : List Stmt} {m : Str → Option Value} {x : Str} {t : Tok} {b : Bool} {Q : Flow → Shared → Prop} (hs : convBody body = true) (C : ConvEnv env) (N : NmIs K mg mb) (hp1 : patChk K 104 103 nameCode.toList = true) (hp2 : patChk K 109 108 valueCode.toList = true) (hn : s.heap.Ns env.locals m) (hv : m "value" = some (.str x t)) (hnm : m "name" = some (.bool b))
    (hx : okText x = true) (hl : x.length < 4096) {h0 : Heap} (H0 : HPk K mg mb h0) (hk : ∀ b o, h0.get? b = some o → s.heap.get? b = some o) (hL : h0.get? env.locals = none)
    (hQ : ∀ h' tk, (∀ b o, h0.get? b = some o → h'.get? b = some o) → Q (.ret (.str x t)) { s with heap := h', toks := tk }) : wpAny (model prog w) A (execs body env) Q E s := by
  have W := wdK K mg mb
  have H := W.mono _ _ hk H0
  obtain ⟨nt, bt⟩ := N.none "type" (by decide +kernel)
  obtain ⟨ns, bs⟩ := N.none "str" (by decide +kernel)
  have bt : mb "type" = some (.type "type") := bt.trans (by decide +kernel)
  have bs : mb "str" = some (.type "str") := bs.trans (by decide +kernel)
  refine l2E hs fun s1 s2 hs => ifIsE (P := fun s1 => wpAny _ _ (execs [s1, s2] env) _ _ _) hs fun tt bb p1 hs => cmp1E (P := fun tt => wpAny _ _ (execs [.If tt bb [] p1, s2] env) _ _ _) (and1 hs) fun l r p2 hc => call1E (P := fun l => wpAny _ _ (execs [.If (.Compare l [.Is] [r] p2) bb [] p1, s2] env) _ _ _) (and1 hc) fun p3 p4 p5 => nameIsE (P := fun r => wpAny _ _ (execs [.If (.Compare _ [.Is] [r] p2) bb [] p1, s2] env) _ _ _) (and2 hc) fun p6 => ?_
  refine wpAny_execs_cons (wpAny_If (wpAny_isTrue_Compare1 (call_Name1 (bi_name_ok W H C.kind C.globals C.builtins C.t (by decide +kernel) nt bt (PySem.callWith_type rfl (args_one (loc_ok C.kind C.v hn hv (by decide +kernel) (call_type_of (typeIs_str s x t) (by decide +kernel)
    (bi_name_ok W H C.kind C.globals C.builtins C.st (by decide +kernel) ns bs (wpAny_pure (wpAny_truthy_bool ?_)))))))) ) rfl))
  rw [beq_self_eq_true, if_pos rfl]
  refine l3E (P := fun bb => wpAny _ _ (execs bb env) _ _ _) (and2 hs) fun a c d hs => asgIsE (P := fun a => wpAny _ _ (execs [a, c, d] env) _ _ _) (and1 hs) fun q1 v q2 ha => onIfExpE (P := fun v => wpAny _ _ (execs [.Assign _ v q2, c, d] env) _ _ _) ha fun y1 y2 y3 q3 ha => nameIsE (P := fun y1 => wpAny _ _ (execs [.Assign _ (.IfExp y1 y2 y3 q3) q2, c, d] env) _ _ _) (and1 ha) fun q4 =>
    nameIsE (P := fun y2 => wpAny _ _ (execs [.Assign _ (.IfExp _ y2 y3 q3) q2, c, d] env) _ _ _) (and1 (and2 ha)) fun q5 => nameIsE (P := fun y3 => wpAny _ _ (execs [.Assign _ (.IfExp _ _ y3 q3) q2, c, d] env) _ _ _) (and2 (and2 ha)) fun q6 => ?_
  refine wpAny_execs_cons (wpAny_Assign_Name (wpAny_IfExp (wpAny_isTrue_value (loc_ok C.kind C.n hn hnm (by decide +kernel) (wpAny_truthy_bool ?_)) rfl)) rfl)
  have rest : ∀ (Q : Flow → Shared → Prop), (∀ h' tk, (∀ b o, h0.get? b = some o → h'.get? b = some o) → Q (.ret (.str x t)) { s with heap := h', toks := tk }) → ∀ pa ct code, (∀ h, K.In h → PatAt h pa ct code) → OneSet code → wpAny (model prog w) A (storeName env (Str.ofString "regex") (.ref pa)) (fun _ s₁ => wpAny (model prog w) A (execs [c, d] env) Q E s₁) E s := fun Q hQ pa ct code hpat h1set => by
    refine wpAny_storeName_local C.r hn (fun h1 hn1 hs1 => ?_) (by rw [C.kind]; rfl)
    have hk1 : ∀ b o, h0.get? b = some o → h1.get? b = some o := fun b o e => (hs1.2 b fun e' => by subst e'; exact nomatch hL.symm.trans e).trans (hk b o e)
    have hv1 : (fun y => if y = Str.ofString "regex" then some (Value.ref pa) else m y) (Str.ofString "value") = some (Value.str x t) := (if_neg (by decide +kernel)).trans hv
    obtain ⟨p0, p1, codes, k, e1, e2, e3⟩ := (hpat h1 (H0.k.keeps hk1)).at_
    refine ifIsE (P := fun c => wpAny _ _ (execs [c, d] env) _ _ _) (and1 (and2 hs)) fun tt bb r1 hc => meth1E (P := fun tt => wpAny _ _ (execs [.If tt bb [] r1, d] env) _ _ _) hc fun o b' apos pos hpos hc => nameIsE (P := fun o => wpAny _ _ (execs [.If (.Call (.Attribute o _ apos) [b'] [] pos) bb [] r1, d] env) _ _ _) (and1 hc) fun r2 =>
      nameIsE (P := fun b' => wpAny _ _ (execs [.If (.Call (.Attribute _ _ apos) [b'] [] pos) bb [] r1, d] env) _ _ _) (and2 hc) fun r3 => ?_
    refine wpAny_execs_cons (wpAny_If (wpAny_isTrue_value (Call_method1 rfl rfl (beq_iff_eq.mpr hpos) (loc_ok C.kind C.r hn1 (if_pos rfl) (by decide +kernel) ⟨"re.Pattern", "re.Pattern.search", plain_pat, slot_search, type_search, ⟨_, e1, rfl⟩, (fun a e => by cases e; exact ⟨_, e1, rfl⟩),
      callWith_builtin rfl (args_one (loc_ok C.kind C.v hn1 hv1 (by decide +kernel) (search_call e1 e2 e3 h1set hx hl (PyProof.Rows.truthy_none ?_))))⟩)) rfl))
    rw [if_neg Bool.false_ne_true]
    refine wpAny_execs_nil (onReturnE (P := fun d => wpAny _ _ (execs [d] env) _ _ _) (and2 (and2 hs)) fun v r4 hd => o1E (P := fun v => wpAny _ _ (execs [.Return v r4] env) _ _ _) hd fun v hd => nameIsE (P := fun v => wpAny _ _ (execs [.Return (some v) r4] env) _ _ _) hd fun r5 => ?_)
    exact wpAny_execs_cons (wpAny_Return_some (loc_ok C.kind C.v hn1 hv1 (by decide +kernel) (hQ _ _ hk1)))
  cases b with
  | true => refine glob_ok W H C.kind C.globals C.g1 (by decide +kernel) N.g1 (rest _ ?_ 104 103 nameCode (fun h X => pat_at X hp1) name_one); exact hQ
  | false => refine glob_ok W H C.kind C.globals C.g2 (by decide +kernel) N.g2 (rest _ ?_ 109 108 valueCode (fun h X => pat_at X hp2) value_one); exact hQ
theorem env_is {fd : FuncData} {a : Addr} {body : List Stmt} (D : FdIn K a fd body) : EnvIs (callEnvC fd s.heap.objs.size a) fd.scope s := ⟨rfl, rfl, rfl, D.globals, D.builtins⟩
theorem conv_call (N : NmIs K mg mb) (hp1 : patChk K 104 103 nameCode.toList = true) (hp2 : patChk K 109 108 valueCode.toList = true) (hc : convChk K = true) (H : HPk K mg mb s.heap) (hd : A.depth < recursionLimit) {self : Value} {x : Str} {t : Tok} {b : Bool} (hx : okText x = true) (hl : x.length < 4096) {Q : Value → Shared → Prop}
    (hQ : ∀ s', Kp s s' → Q (.str x t) s') : wpAny (model prog w) A (call (.ref 139) [self, .str x t] [(Str.ofString "name", .bool b)]) Q E s := fdChkE hc fun fd body D hc => parE (and1 hc) fun ko kw P hk => by
  have hdf : fd.defaults = .none := of_decide_eq_true (and1 (and2 hc))
  have look : ∀ p ∈ convNames, fd.scope.names.lookup p.1 = some p.2 := of_decide_eq_true (and1 (and2 (and2 (and2 hc))))
  cases Option.isNone_iff_eq_none.mp (and1 hk)
  rw [hdf] at P
  have hbd : bindArgs fd ⟨[self, .str x t], [(Str.ofString "name", .bool b)]⟩ = pure [(Str.ofString "self", self), (Str.ofString "value", .str x t), (Str.ofString "name", .bool b)] := by
    rw [P.eta]
    exact args2E (P := fun ps => bindArgs (fdP fd ps ko .none none) _ = _) P.ar fun _ _ _ _ => args1E (P := fun ko => bindArgs (fdP fd _ ko .none none) _ = _) (of_decide_eq_true (and2 hk)) fun _ _ => by kernel_rfl
  refine wpAny_call (enter_fn hd H D (and1 (and2 (and2 hc))) ?_)
  rw [hbd]
  refine wpAny_pure ⟨Kp.refl _, allC (look _ (.head _)) (allC (look _ (.tail _ (.head _))) (allC (look _ (.tail _ (.tail _ (.head _)))) allN)), fun s₁ ic => ?_⟩
  have e := env_is (s := s) D
  have nd : ([Str.ofString "self", Str.ofString "value", Str.ofString "name"] : List Str).Nodup := by decide +kernel
  have hl0 := e.fresh _ (.head _)
  generalize callEnvC fd s.heap.objs.size 139 = env at ic e hl0 ⊢
  have kd : ∀ i x k, convNames[i]? = some (x, k) → env.kindOf x = some k := fun i x k hi => (e.kind _).trans (look (x, k) (List.mem_of_getElem? hi))
  obtain ⟨⟨h1, t1, rfl⟩, k1⟩ : Kp s s₁ := ⟨ic.toInCall.same, ic.toInCall.keep⟩
  exact conv_body (b := b) (x := x) (t := t) (and2 (and2 (and2 (and2 hc)))) ⟨e.isScope ▸ (of_decide_eq_true (and1 (and2 (and2 hc)))).1, e.globals, e.builtins, kd 1 _ _ rfl, kd 2 _ _ rfl, kd 3 _ _ rfl, kd 4 _ _ rfl, kd 5 _ _ rfl, kd 6 _ _ rfl, kd 7 _ _ rfl⟩ N hp1 hp2 ic.toInCall.ns
    (bindL_get _ _ _ _ nd (.tail _ (.head _)) (kd 1 _ _ rfl)) (bindL_get _ _ _ _ nd (.tail _ (.tail _ (.head _))) (kd 2 _ _ rfl)) hx hl H k1 hl0 fun h' tk hk => hQ _ (Kp.of hk)
end
end Mine
end

-- R5
section
open PySem PyProof.Rows PySem.Calls PySem.Spec PySem.W
set_option maxRecDepth 100000
set_option autoImplicit false
namespace Mine
section
variable {K : Frag} {mg mb : Str → Option Value} {prog : Program} {w : World} {A : Around} {s : Shared}
theorem lookIn_ns {h : Heap} {a : Addr} {o : Obj} {m : Str → Option Value} (n : h.Ns a m) (e : h.get? a = some o) (name : Str) : lookIn name o = some (m name) := by
  obtain ⟨o', es, ep, e', d, k, f⟩ := n
  rw [e] at e'
  cases e'
  unfold lookIn
  rw [d]
  dsimp only
  have hf := f name
  unfold nsFind findBy at hf
  rw [← Array.find?_toList] at hf
  split
  · rename_i en he
    rw [he] at hf
    rw [← hf]; rfl
  · rename_i he
    rw [he] at hf
    rw [← hf]
    rw [if_neg]
    · rfl
    · simp only [List.any_eq_true, not_exists, not_and]
      intro en hm
      obtain ⟨n, t, hk⟩ := k en (by simpa using hm)
      unfold DictEntry.refKey
      rw [hk]
      exact Bool.false_ne_true
theorem inst_of {O : List Addr} {h : Heap} {x dx l : Addr} {xs : List (Str × Str)} {ts : List Addr} (r : HdrIs O h x xs dx l ts) :
    ∃ ox od, PySem.W.InstAt h x ox 240 (some od) ∧ ∀ name, lookIn name od = some (if name = Str.ofString "_headers" then some (.ref l) else none) := by
  obtain ⟨ox, e, c, d, n⟩ := r.obj
  obtain ⟨od, es, ep, e1, e2⟩ := r.ns
  have hn : h.Ns dx _ := r.ns.ns
  refine ⟨ox, od, ⟨e, c, ?_, ?_⟩, fun name => lookIn_ns hn e1 name⟩
  · unfold notCls
    split
    · rename_i cd hcd; exact absurd hcd (n cd)
    · rfl
  · rw [d]; exact e1
theorem h_mem {name : Str} {f : Addr} (hf : hTable.lookup name = some f) : (name, f) ∈ hTable := mem_of_lookup hf
theorem k_hm (C : ClsIs K) {name : Str} {f : Addr} (hf : hTable.lookup name = some f) {O : List Addr} {x dx l : Addr} {xs : List (Str × Str)} {ts : List Addr} {pl : Sem Bool} {Q : Value × List Value → Shared → Prop} {E : Value → Shared → Prop}
    (H : HPk K mg mb s.heap) (r : HdrIs O s.heap x xs dx l ts) (hQ : Q (.ref f, [.ref x]) s) : wpAny (model prog w) A (getMethod (.ref x) name pl) Q E s := by
  obtain ⟨ox, od, I, hl⟩ := inst_of r
  obtain ⟨e1, e2, e3, _⟩ := C.h _ (h_mem hf)
  refine method_fn H.k I C.ga C.gt e1 e2 ?_ hQ
  show (lookIn name od).map (·.isSome) = some false
  rw [hl name, if_neg e3]
  rfl
theorem k_hfn (C : ClsIs K) {name : Str} {f : Addr} (hf : hTable.lookup name = some f) {h : Heap} (H : HPk K mg mb h) : ∃ o fd, h.get? f = some o ∧ o.data = .func fd := by
  obtain ⟨fd, e⟩ := Option.isSome_iff_exists.mp (C.h _ (h_mem hf)).2.2.2
  obtain ⟨o, a, b⟩ := fdK_at H.k e
  exact ⟨o, fd, a, b⟩
theorem k_hattr (C : ClsIs K) {O : List Addr} {x dx l : Addr} {xs : List (Str × Str)} {ts : List Addr} {Q E : Value → Shared → Prop} (H : HPk K mg mb s.heap) (r : HdrIs O s.heap x xs dx l ts) (hQ : ∀ tk, Q (.ref l) { s with toks := tk }) :
    wpAny (model prog w) A (getAttr (.ref x) "_headers" true) Q E s := by
  obtain ⟨ox, od, I, hl⟩ := inst_of r
  refine get_value H.k I C.ga ?_ (by rfl) (hQ _)
  have h1 : lookIn (Str.ofString "_headers") od = some (some (.ref l)) := by rw [hl, if_pos rfl]
  obtain ⟨cd, hc, hd⟩ := any_some C.dict
  have ho : PySem.W.ownOf cd (some od) (Str.ofString "_headers") = some (some (.ref l)) := by unfold PySem.W.ownOf; rw [if_pos hd]; exact h1
  unfold findObj
  rw [hc, Option.bind_some, show findIn K (.ref 240) (Str.ofString "_headers") = some none from C.hd, Option.bind_some, ho]
  rfl
end
end Mine
end

-- R6
section
open PySem PyProof.Rows PySem.Calls PySem.Spec PySem.W
set_option maxRecDepth 100000
set_option autoImplicit false
set_option genSizeOf false
set_option genInjectivity false
set_option maxHeartbeats 2000000
namespace Mine
/-- the text check as a method -/
noncomputable def convM (t : Expr) (v a : Str) (b : Bool) : Bool := onCall t fun g args kws cp => onAttribute g fun o nm ap => l1 args fun x => l1 kws fun kw => o1 kw.arg fun k => onConstant kw.value fun c _ _ => decide (nm = "_convert_string_type" ∧ k = "name" ∧ c = .bool b ∧ ap.endLine = cp.line) && (nameIs o v && nameIs x a)
@[elab_as_elim] theorem convME {t : Expr} {v a : Str} {b : Bool} {P : Expr → Prop} (h : convM t v a b = true) (f : ∀ p1 ap p2 k p3 p4 cp, ap.endLine = cp.line → P (.Call (.Attribute (.Name v p1) "_convert_string_type" ap) [.Name a p2] [⟨some "name", .Constant (.bool b) k p3, p4⟩] cp)) : P t :=
  onCallE h fun g args kws cp h => onAttributeE (P := fun g => P (.Call g args kws cp)) h fun o nm ap h => l1E (P := fun args => P (.Call (.Attribute o nm ap) args kws cp)) h fun x h => l1E (P := fun kws => P (.Call (.Attribute o nm ap) [x] kws cp)) h fun ⟨ka, kv, p4⟩ h => o1E (P := fun ka => P (.Call (.Attribute o nm ap) [x] [⟨ka, kv, p4⟩] cp)) h fun k h =>
  onConstantE (P := fun kv => P (.Call (.Attribute o nm ap) [x] [⟨some k, kv, p4⟩] cp)) h fun c kk p3 h => by
    obtain ⟨e1, e2, e3, e4⟩ := of_decide_eq_true (and1 h)
    rw [e1, e2, e3]
    exact nameIsE (P := fun o => P (.Call (.Attribute o _ ap) [x] [⟨some _, .Constant (.bool b) kk p3, p4⟩] cp)) (and1 (and2 h)) fun p1 => nameIsE (P := fun x => P (.Call (.Attribute _ _ ap) [x] [⟨some _, .Constant (.bool b) kk p3, p4⟩] cp)) (and2 (and2 h)) fun p2 => f p1 ap p2 kk p3 p4 cp e4
noncomputable def addBody (body : List Stmt) : Bool := List.casesOn (motive := fun _ => Bool) body false fun s1 r => asgIs s1 "parts" (fun v => onList v fun es _ => es.isEmpty) && l3 r fun s2 s3 s4 =>
  ifIs s2 (fun t b => cmp1 t .IsNot (fun l r => nameIs l "_value" && onConstant r fun c _ _ => decide (c = .none)) && l2 b fun a c => asgIs a "_value" (fun v => convM v "self" "_value" false) && onExpr c fun c _ => meth1 c "append" fun o b => nameIs o "parts" && nameIs b "_value") &&
  (onFor s3 (fun _ it _ els _ => l0 els (onCall it fun g args kws cp => l0 args (l0 kws (onAttribute g fun o nm ap => decide (nm = "items" ∧ ap.endLine = cp.line) && nameIs o "_params")))) &&
  onExpr s4 fun c _ => meth1 c "append" fun o b => (onAttribute o fun q hd _ => decide (hd = "_headers") && nameIs q "self") && onTuple b fun es _ _ => l2 es fun a j => convM a "self" "_name" true && meth1 j "join" fun o b => (onConstant o fun c _ _ => decide (c = .str "; ")) && nameIs b "parts")
noncomputable def addNames : List (Str × NameKind) := [("self", .local), ("_name", .local), ("_value", .local), ("_params", .local), ("parts", .local)]
noncomputable def addChk (K : Frag) : Bool := fdChk K 237 fun fd body => parB fd ["self", "_name", "_value"] (fun ko kw => ko.isEmpty && o1 kw fun g => decide (g.arg = "_params")) && (decide (fd.defaults = .none) && (plainScope fd.scope && (lookB fd.scope.names addNames && addBody body)))
structure AddEnv (env : Env) : Prop where
  kind : env.scope.kind = .function
  self : env.kindOf "self" = some .local
  n : env.kindOf "_name" = some .local
  v : env.kindOf "_value" = some .local
  pr : env.kindOf "_params" = some .local
  pa : env.kindOf "parts" = some .local
/-- the methods that are walked by hand -/
structure Hand (K : Frag) (mg mb : Str → Option Value) : Prop where
  C : ClsIs K
  N : NmIs K mg mb
  p1 : patChk K 104 103 nameCode.toList = true
  p2 : patChk K 109 108 valueCode.toList = true
  conv : convChk K = true
section
variable {K : Frag} {mg mb : Str → Option Value} {prog : Program} {w : World} {A : Around} {s : Shared}
theorem conv_meth (Y : Hand K mg mb) {env : Env} {O : List Addr} {x dx l : Addr} {xs : List (Str × Str)} {ts : List Addr} {m : Str → Option Value} {y : Str} {t : Tok} {v a : Str} {e : Expr} {b : Bool} {Q E : Value → Shared → Prop} (he : convM e v a b = true)
    (hk : env.scope.kind = .function) (hs : env.kindOf v = some .local) (ha : env.kindOf a = some .local) (hdv : (v == ("__debug__" : Str)) = false) (hda : (a == ("__debug__" : Str)) = false) (hn : s.heap.Ns env.locals m) (hmv : m v = some (.ref x)) (hma : m a = some (.str y t)) (H : HPk K mg mb s.heap) (r : HdrIs O s.heap x xs dx l ts) (hd : A.depth < recursionLimit) (hy : okText y = true) (hl : y.length < 4096)
    (hQ : ∀ s', Kp s s' → Q (.str y t) s') : wpAny (model prog w) A (eval e env) Q E s := convME he fun p1 ap p2 k p3 p4 cp hpos => by
  rw [arm_eval_Call, base_plain rfl]
  refine wpAny_bind (loc_ok hk hs hn hmv hdv (wpAny_bind (wpAny_standAt ?_)))
  unfold methodCall
  rw [show methodCallForm (([Expr.Name a p2] : List Expr).length + ([⟨some (Str.ofString "name"), .Constant (.bool b) k p3, p4⟩] : List Keyword).length) (backTo cp (starEach [Expr.Name a p2] env)) (backToKw cp (keywordEach [⟨some (Str.ofString "name"), .Constant (.bool b) k p3, p4⟩] env)) = true from rfl]
  refine wpAny_bind (wpAny_holding (k_hm Y.C (f := 139) (by rfl) H r ?_))
  have hpos' : methodCallPos true (Expr.Name v p1) env ap cp = pure cp := by
    unfold methodCallPos
    rw [show (ap.endLine == cp.line) = true from beq_iff_eq.mpr hpos]; rfl
  obtain ⟨o', fd, ho, hfd⟩ := k_hfn Y.C (name := Str.ofString "_convert_string_type") (f := 139) (by rfl) H
  refine wpAny_bind (wpAny_of_eq hpos' (callWith_function_kw (o := o') (fd := fd) (evalArgs_kw (by rfl) (spliced_cons (loc_ok hk ha hn hma hda (spliced_nil ?_))))))
  exact wpAny_evalAll_cons (wpAny_bind (wpAny_Constant_bool (wpAny_bind (wpAny_standAt (wpAny_pure (wpAny_evalAll_nil ⟨⟨ho, hfd⟩, conv_call Y.N Y.p1 Y.p2 Y.conv H hd hy hl hQ⟩))))))
theorem ns_ne {h : Heap} {a b : Addr} {m : Str → Option Value} {its : Array Value} (n : h.Ns a m) (p : PlainL h b its) : a ≠ b := by
  rintro rfl
  obtain ⟨o, es, ep, e, d, _⟩ := n
  obtain ⟨o', k, e', _, _, d'⟩ := p
  rw [e] at e'; cases e'
  rw [d] at d'; cases d'
/-- one header more -/
theorem hdr_more {O : List Addr} {g h' : Heap} {x dx l T : Addr} {xs : List (Str × Str)} {ts : List Addr} {k v : Str} {t u : Tok} (r : HdrIs O g x xs dx l ts) (up : ∀ a o, a ≠ l → g.get? a = some o → h'.get? a = some o) (hl : PlainL h' l ((ts.map Value.ref).toArray.push (.ref T))) (hT : h'.IsTuple T #[.str k t, .str v u]) (hO : T ∉ O) : HdrIs O h' x (xs ++ [(k, v)]) dx l (ts ++ [T]) := by
  obtain ⟨ox, e1, e2, e3, e4⟩ := r.obj
  obtain ⟨ol, nl, l1, l2, l3, l4⟩ := r.list
  have hxl : x ≠ l := fun e => by
    subst e
    cases l1.symm.trans e1
    exact nomatch l2.symm.trans e2
  have hdl : dx ≠ l := fun e => by
    subst e
    obtain ⟨od, es, ep, e5, e6, _⟩ := r.ns
    cases l1.symm.trans e5
    exact nomatch l4.symm.trans e6
  refine ⟨r.xO, r.dO, r.lO, r.apart, ⟨ox, up _ _ hxl e1, e2, e3, e4⟩, r.ns.at fun o e => up _ _ hdl e, ?_, by rw [List.length_append, List.length_append, r.len]; rfl, fun t2 p2 hm => ?_⟩
  · rw [List.map_append]
    exact (List.push_toArray (ts.map Value.ref) (.ref T)) ▸ hl
  · rw [List.zip_append r.len] at hm
    rcases List.mem_append.mp hm with hm | hm
    · obtain ⟨h1', u1, v1, oi, i1, i2, i3⟩ := r.item t2 p2 hm
      refine ⟨h1', u1, v1, oi, up _ _ (fun e' => ?_) i1, i2, i3⟩
      subst e'
      cases l1.symm.trans i1
      exact absurd (l2.symm.trans i2) (by decide +kernel)
    · cases List.mem_singleton.mp hm
      exact ⟨hO, t, u, hT⟩
theorem join_one {v : Str} (hv : v.length < 4096) : JoinOk (Str.ofString "; ") [v] = true := by
  unfold JoinOk
  have e2 : (Str.ofString "; ").length = 2 := rfl
  simp only [List.foldl_toArray', List.foldl_cons, List.foldl_nil, e2]
  have e : Builtin.Str.tooLong (0 + v.length + 2) = false := decide_eq_false (Nat.not_lt.mpr (Nat.le_trans (Nat.add_le_add_right (Nat.zero_add v.length ▸ Nat.le_of_lt hv) 2) (by decide)))
  rw [e]; rfl
theorem upd_ne {m : Str → Option Value} {x z : Str} {v w : Value} (h : z ≠ x) (e : m z = some w) : (fun y => if y = x then some v else m y) z = some w := (if_neg h).trans e
theorem upd_eq {m : Str → Option Value} {x : Str} {v : Value} : (fun y => if y = x then some v else m y) x = some v := if_pos rfl
/-- the walk over no items -/
theorem no_items {env : Env} {s3 : Stmt} {m : Str → Option Value} {d : Addr} {Q : Flow → Shared → Prop} {E : Value → Shared → Prop} (hs : (onFor s3 fun _ it _ els _ => l0 els (onCall it fun g args kws cp => l0 args (l0 kws (onAttribute g fun o nm ap => decide (nm = "items" ∧ ap.endLine = cp.line) && nameIs o "_params")))) = true) (C : AddEnv env) (hh : A.handled = none) (hn : s.heap.Ns env.locals m) (m4 : m "_params" = some (.ref d)) (hd0 : (d == sysModules) = false) (d4 : s.heap.get? d = some { cls := .type "dict", data := .dict #[] })
    (hQ : ∀ h' tk, (∀ b o, s.heap.get? b = some o → h'.get? b = some o) → Q .next { s with heap := h', toks := tk }) : wpAny (model prog w) A (exec s3 env) Q E s := by
  refine onForE hs fun tt it bb els p hs => l0E (P := fun els => wpAny _ _ (exec (.For tt it bb els p) env) _ _ _) hs fun hs => onCallE (P := fun it => wpAny _ _ (exec (.For tt it bb [] p) env) _ _ _) hs fun g args kws cp hs => l0E (P := fun args => wpAny _ _ (exec (.For tt (.Call g args kws cp) bb [] p) env) _ _ _) hs fun hs => l0E (P := fun kws => wpAny _ _ (exec (.For tt (.Call g [] kws cp) bb [] p) env) _ _ _) hs fun hs =>
    onAttributeE (P := fun g => wpAny _ _ (exec (.For tt (.Call g [] [] cp) bb [] p) env) _ _ _) hs fun o nm ap hs => nameIsE (P := fun o => wpAny _ _ (exec (.For tt (.Call (.Attribute o nm ap) [] [] cp) bb [] p) env) _ _ _) (and2 hs) fun p2 => ?_
  obtain ⟨e1, e2⟩ := of_decide_eq_true (and1 hs)
  rw [e1]
  have dd : ∀ h : Heap, h.get? d = some { cls := .type "dict", data := .dict #[] } → h.DictOf (strKind prog w) d [] := fun h e => ⟨_, #[], 0, e, ⟨rfl, rfl, rfl⟩, rfl, fun _ he => (nomatch he), Pairs.nil, List.nodup_nil⟩
  refine wpAny_For (wpAny_Call_items (knd := strKind prog w) hd0 (dd _ d4) rfl (beq_iff_eq.mpr e2) (fun Q' hq => loc_ok C.kind C.pr hn m4 (by decide +kernel) hq) ?_) (fun _ => rfl)
  have d5 : (s.heap.push { cls := .type "dict_items", data := .fields #[.ref d] }).get? d = some { cls := .type "dict", data := .dict #[] } := Heap.get?_push_of_some _ d4
  refine wpAny_pyIter_items (knd := strKind prog w) (kvs := []) (ep := 0) ⟨_, Heap.get?_push_size _ rfl, rfl, rfl⟩ ⟨_, #[], d5, ⟨rfl, rfl, rfl⟩, rfl, fun _ he => (nomatch he), Pairs.nil, List.nodup_nil⟩ ?_
  have lt5 : ∀ b o, s.heap.get? b = some o → b ≠ (s.heap.push { cls := .type "dict_items", data := .fields #[.ref d] }).objs.size := fun b o e => Nat.ne_of_lt (Heap.lt_size (Heap.get?_push_of_some _ e))
  have k5 : ∀ b o, s.heap.get? b = some o → (s.heap.push { cls := .type "dict_items", data := .fields #[.ref d] }).get? b = some o := fun b o e => Heap.get?_push_of_some _ e
  generalize s.heap.push { cls := .type "dict_items", data := .fields #[.ref d] } = H5 at d5 lt5 k5 ⊢
  have it6 : (H5.push { cls := .type "dict_itemiterator", data := .fields #[.none, .bool false, .ref d, .int 0 0, .int ([] : List (Str × Value)).length 0, .int 0 0, .none, .none] }).get? H5.objs.size = some { cls := .type "dict_itemiterator", data := .fields #[.none, .bool false, .ref d, .int 0 0, .int ([] : List (Str × Value)).length 0, .int 0 0, .none, .none] } := Heap.get?_push_size _ rfl
  have k6 : ∀ b o, H5.get? b = some o → (H5.push { cls := .type "dict_itemiterator", data := .fields #[.none, .bool false, .ref d, .int 0 0, .int ([] : List (Str × Value)).length 0, .int 0 0, .none, .none] }).get? b = some o := fun b o e => Heap.get?_push_of_some _ e
  generalize H5.push { cls := .type "dict_itemiterator", data := .fields #[.none, .bool false, .ref d, .int 0 0, .int ([] : List (Str × Value)).length 0, .int 0 0, .none, .none] } = H6 at it6 k6 ⊢
  refine codeAny_forLoop_any (fun n s' => n = 0 ∧ ∃ tk, s' = { s with heap := H6, toks := tk }) ?_ 0 ⟨rfl, _, rfl⟩
  rintro n s' ⟨rfl, tk6, rfl⟩
  exact wpAny_pyNext_items_end (knd := strKind prog w) (kvs := []) (i := 0) (ep := 0) hh it6 ⟨_, #[], k6 _ _ d5, ⟨rfl, rfl, rfl⟩, rfl, fun _ he => (nomatch he), Pairs.nil, List.nodup_nil⟩ rfl fun h7 he7 => wpAny_execs_nil (hQ _ _ fun b o e => he7 b o (lt5 b o e) (k6 b o (k5 b o e)))
theorem add_body (Y : Hand K mg mb) {env : Env} {body : List Stmt} {m : Str → Option Value} {O : List Addr} {x dx l d : Addr} {xs : List (Str × Str)} {ts : List Addr} {k v : Str} {t u : Tok} {Q : Flow → Shared → Prop} {E : Value → Shared → Prop} (hs : addBody body = true) (C : AddEnv env)
    (hh : A.handled = none) (hd : A.depth < recursionLimit) (hn : s.heap.Ns env.locals m) (m1 : m "self" = some (.ref x)) (m2 : m "_name" = some (.str k t)) (m3 : m "_value" = some (.str v u)) (m4 : m "_params" = some (.ref d)) (hdd : s.heap.get? d = some { cls := .type "dict", data := .dict #[] }) (hdL : d ≠ env.locals) (hd0 : (d == sysModules) = false)
    (hk1 : okText k = true) (hk2 : k.length < 4096) (hv1 : okText v = true) (hv2 : v.length < 4096) (hts : ts.length < 4096)
    {h0 : Heap} (H0 : HPk K mg mb h0) (hk : ∀ b o, h0.get? b = some o → s.heap.get? b = some o) (hL : h0.get? env.locals = none) (hO : Alive O h0) (r0 : HdrIs O h0 x xs dx l ts)
    (hQ : ∀ h' tk T, (∀ b o, b ≠ l → h0.get? b = some o → h'.get? b = some o) → h0.get? T = none → HdrIs O h' x (xs ++ [(k, v)]) dx l (ts ++ [T]) → Q .next { s with heap := h', toks := tk }) : wpAny (model prog w) A (execs body env) Q E s := by
  have W := wdK K mg mb
  have keep1 : ∀ {h1 h2 : Heap} {L : Addr}, (∀ b o, h0.get? b = some o → h1.get? b = some o) → h0.get? L = none → Heap.SameBut L h1 h2 → ∀ b o, h0.get? b = some o → h2.get? b = some o := fun k1 hL hs b o e => (hs.2 b fun e' => by subst e'; exact nomatch hL.symm.trans e).trans (k1 b o e)
  have gone : ∀ {h1 : Heap}, (∀ b o, h0.get? b = some o → h1.get? b = some o) → h0.get? h1.objs.size = none := fun {h1} k1 => by
    cases e : h0.get? h1.objs.size with
    | none => rfl
    | some o => exact nomatch (get_size h1).symm.trans (k1 _ _ e)
  have rk : ∀ {h1 : Heap}, (∀ b o, h0.get? b = some o → h1.get? b = some o) → HdrIs O h1 x xs dx l ts := fun k1 => r0.mono (.grow k1)
  cases body with
  | nil => exact nomatch hs
  | cons s1 body =>
  refine l3E (P := fun body => wpAny _ _ (execs (s1 :: body) env) _ _ _) (and2 hs) fun s2 s3 s4 h2 => ?_
  -- parts = []
  refine wpAny_execs_cons (asgIsE (P := fun s1 => wpAny _ _ (exec s1 env) _ _ _) (and1 hs) fun p1 e p2 he => onListE (P := fun e => wpAny _ _ (exec (.Assign _ e p2) env) _ _ _) he fun es p3 he => ?_)
  cases List.isEmpty_iff.mp he
  have p0 : PlainL (s.heap.push { cls := .type "list", data := .seq ([] : List Value).toArray }) s.heap.objs.size #[] := ⟨_, _, Heap.get?_push_size _ rfl, rfl, rfl, rfl⟩
  have hn0 : (s.heap.push { cls := .type "list", data := .seq ([] : List Value).toArray }).Ns env.locals m := hn.keeps fun b o e => Heap.get?_push_of_some _ e
  refine wpAny_Assign_Name (wpAny_List (wpAny_items_nil ⟨by decide, wpAny_storeName_local C.pa hn0 (fun h1 hn1 hs1 => ?_) (by rw [C.kind]; rfl)⟩)) rfl
  have k1 := keep1 (fun b o e => Heap.get?_push_of_some _ (hk b o e)) hL hs1
  have hPL := ns_ne hn0 p0
  have P1 := p0.extBut hs1.extBut (Ne.symm hPL)
  have d1 : h1.get? d = some { cls := .type "dict", data := .dict #[] } := (hs1.2 d hdL).trans (Heap.get?_push_of_some _ hdd)
  -- if _value is not None
  refine wpAny_execs_cons (ifIsE (P := fun s2 => wpAny _ _ (exec s2 env) _ _ _) (and1 h2) fun tt bb p4 hc => cmp1E (P := fun tt => wpAny _ _ (exec (.If tt bb [] p4) env) _ _ _) (and1 hc) fun a b p5 ha => nameIsE (P := fun a => wpAny _ _ (exec (.If (.Compare a [.IsNot] [b] p5) bb [] p4) env) _ _ _) (and1 ha) fun p6 => onConstantE (P := fun b => wpAny _ _ (exec (.If (.Compare _ [.IsNot] [b] p5) bb [] p4) env) _ _ _) (and2 ha) fun c kk p7 hb => ?_)
  cases (of_decide_eq_true hb : c = .none)
  refine wpAny_If (wpAny_isTrue_Compare1 (loc_ok C.kind C.v hn1 (upd_ne (by decide +kernel) m3) (by decide +kernel) (wpAny_Constant_none (isNot_none (wpAny_truthy_bool ?_)))) rfl)
  rw [show (!(Value.str v u == Value.none)) = true from rfl, if_pos rfl]
  refine l2E (P := fun bb => wpAny _ _ (execs bb env) _ _ _) (and2 hc) fun a1 a2 hc => ?_
  refine wpAny_execs_cons (asgIsE (P := fun a1 => wpAny _ _ (exec a1 env) _ _ _) (and1 hc) fun p8 e p9 he => wpAny_Assign_Name (conv_meth Y (s := { s with heap := h1, toks := _ }) he C.kind C.self C.v (by decide +kernel) (by decide +kernel) hn1 (upd_ne (by decide +kernel) m1) (upd_ne (by decide +kernel) m3) (W.mono _ _ k1 H0) (rk k1) hd hv1 hv2 fun s2 kp2 => ?_) (convME (P := fun e => swapsWith e _ _ _ = _) he fun _ _ _ _ _ _ _ _ => rfl))
  obtain ⟨⟨g2, t2, rfl⟩, k2⟩ := kp2
  have k2 : ∀ b o, h1.get? b = some o → g2.get? b = some o := k2
  refine wpAny_storeName_local C.v (hn1.keeps k2) (fun h3 hn3 hs3 => ?_) (by rw [C.kind]; rfl)
  have k3 := keep1 (fun b o e => k2 b o (k1 b o e)) hL hs3
  have P3 := (P1.keeps k2).extBut hs3.extBut (Ne.symm hPL)
  have d3 : h3.get? d = some { cls := .type "dict", data := .dict #[] } := (hs3.2 d hdL).trans (k2 _ _ d1)
  have mv : ∀ (z : Str) (w : Value), z ≠ Str.ofString "parts" → z ≠ Str.ofString "_value" → m z = some w → (fun y => if y = Str.ofString "_value" then some (Value.str v u) else if y = Str.ofString "parts" then some (Value.ref s.heap.objs.size) else m y) z = some w := fun z w h1 h2 e => (if_neg h2).trans ((if_neg h1).trans e)
  have mp : (fun y => if y = Str.ofString "_value" then some (Value.str v u) else if y = Str.ofString "parts" then some (Value.ref s.heap.objs.size) else m y) (Str.ofString "parts") = some (.ref s.heap.objs.size) := (if_neg (by decide +kernel)).trans (if_pos rfl)
  -- parts.append(_value)
  refine wpAny_execs_cons (onExprE (P := fun a2 => wpAny _ _ (exec a2 env) _ _ _) (and2 hc) fun e p10 he => meth1E (P := fun e => wpAny _ _ (exec (.Expr e p10) env) _ _ _) he fun o b' ap cp hpos he => nameIsE (P := fun o => wpAny _ _ (exec (.Expr (.Call (.Attribute o _ ap) [b'] [] cp) p10) env) _ _ _) (and1 he) fun p11 => nameIsE (P := fun b' => wpAny _ _ (exec (.Expr (.Call (.Attribute _ _ ap) [b'] [] cp) p10) env) _ _ _) (and2 he) fun p12 =>
    wpAny_Expr (wpAny_Call_append rfl rfl (beq_iff_eq.mpr hpos) rfl (loc_ok C.kind C.pa hn3 mp (by decide +kernel) ⟨_, _, rfl, P3, loc_ok C.kind C.v hn3 upd_eq (by decide +kernel) (list_append_plainL P3 (fun h4 P4 hs4 => ?_) (by decide +kernel))⟩)) (inter_fun C.kind))
  have hn4 := hn3.sameBut hs4 hPL
  have k4 := keep1 k3 (gone hk) hs4
  -- for k, v in _params.items()
  refine wpAny_execs_nil (wpAny_execs_cons (no_items (s := { s with heap := h4, toks := _ }) (and1 (and2 h2)) C hh hn4 (mv _ _ (by decide +kernel) (by decide +kernel) m4) hd0 ((hs4.2 d (Nat.ne_of_lt (Heap.lt_size hdd))).trans d3) fun h7 tk7 k47 => ?_))
  have k7 : ∀ b o, h0.get? b = some o → h7.get? b = some o := fun b o e => k47 b o (k4 b o e)
  have hn7 := hn4.keeps k47
  have r7 := rk k7
  have H7 := W.mono _ _ k7 H0
  -- self._headers.append(..)
  refine wpAny_execs_cons (onExprE (P := fun s4 => wpAny _ _ (exec s4 env) _ _ _) (and2 (and2 h2)) fun e q1 he => meth1E (P := fun e => wpAny _ _ (exec (.Expr e q1) env) _ _ _) he fun o b ap cp hpos he => onAttributeE (P := fun o => wpAny _ _ (exec (.Expr (.Call (.Attribute o _ ap) [b] [] cp) q1) env) _ _ _) (and1 he) fun o hdn q2 ho => nameIsE (P := fun o => wpAny _ _ (exec (.Expr (.Call (.Attribute (.Attribute o hdn q2) _ ap) [b] [] cp) q1) env) _ _ _) (and2 ho) fun q3 =>
    onTupleE (P := fun b => wpAny _ _ (exec (.Expr (.Call (.Attribute (.Attribute _ hdn q2) _ ap) [b] [] cp) q1) env) _ _ _) (and2 he) fun es k3' q4 he => l2E (P := fun es => wpAny _ _ (exec (.Expr (.Call (.Attribute (.Attribute _ hdn q2) _ ap) [.Tuple es k3' q4] [] cp) q1) env) _ _ _) he fun a j he => ?_)
  rw [(of_decide_eq_true (and1 ho) : hdn = Str.ofString "_headers")]
  refine wpAny_Expr (wpAny_Call_append rfl rfl (beq_iff_eq.mpr hpos) rfl ?_) (inter_fun C.kind)
  rw [arm_eval_Attribute]
  refine wpAny_bind (loc_ok C.kind C.self hn7 (mv _ _ (by decide +kernel) (by decide +kernel) m1) (by decide +kernel) (wpAny_bind (wpAny_standAt (wpAny_bind (wpAny_holding (k_hattr Y.C (s := { s with heap := h7, toks := _ }) H7 r7 fun tk8 => wpAny_bind (wpAny_pure (wpAny_pure ⟨l, _, rfl, r7.list, ?_⟩))))))))
  have nsa : notStar a = true := convME (P := fun a => notStar a = true) (and1 he) fun _ _ _ _ _ _ _ _ => rfl
  refine wpAny_Tuple (wpAny_items_cons (conv_meth Y (s := { s with heap := h7, toks := _ }) (and1 he) C.kind C.self C.n (by decide +kernel) (by decide +kernel) hn7 (mv _ _ (by decide +kernel) (by decide +kernel) m1) (mv _ _ (by decide +kernel) (by decide +kernel) m2) H7 r7 hd hk1 hk2 fun s9 kp9 => ?_) (star_cons nsa))
  obtain ⟨⟨g9, t9, rfl⟩, k9⟩ := kp9
  have k9 : ∀ b o, h7.get? b = some o → g9.get? b = some o := k9
  have kg : ∀ b o, h0.get? b = some o → g9.get? b = some o := fun b o e => k9 b o (k7 b o e)
  have rg := rk kg
  refine meth1E (P := fun j => wpAny _ _ (spliced (backTo q4 (starEach [j] env))) _ _ _) (and2 he) fun o b ap' cp' hpos' hj => onConstantE (P := fun o => wpAny _ _ (spliced (backTo q4 (starEach [.Call (.Attribute o _ ap') [b] [] cp'] env))) _ _ _) (and1 hj) fun c kk q5 ho' => nameIsE (P := fun b => wpAny _ _ (spliced (backTo q4 (starEach [.Call (.Attribute (.Constant c kk q5) _ ap') [b] [] cp'] env))) _ _ _) (and2 hj) fun q6 => ?_
  rw [(of_decide_eq_true ho' : c = .str (Str.ofString "; "))]
  refine wpAny_items_cons (Call_method1 rfl rfl (beq_iff_eq.mpr hpos') (wpAny_Constant_str (SB.join (loc_ok C.kind C.pa (hn7.keeps k9) mp (by decide +kernel) ⟨_, [(v, u)], rfl, ((P4.keeps k47).keeps k9).isList, [v], rfl, join_one hv2, fun t' kk => wpAny_items_nil ⟨show 2 ≤ sizeLine by decide, ?_⟩⟩))))
  rw [show Txt.join (Str.ofString "; ") [v] = v from rfl]
  refine list_append_plainL (rg.list.keeps fun b o e => Heap.get?_push_of_some _ e) (fun h10 P10 hs10 => ?_) (by rw [List.size_toArray, List.length_map]; exact Nat.le_trans (Nat.le_of_lt hts) (by decide))
  have up : ∀ a o, a ≠ l → g9.get? a = some o → h10.get? a = some o := fun a o ha e => (hs10.2 a ha).trans (Heap.get?_push_of_some _ e)
  have hTl : g9.objs.size ≠ l := fun e => by
    obtain ⟨o, n, e1, _⟩ := rg.list
    exact Nat.lt_irrefl _ (e ▸ Heap.lt_size e1)
  exact wpAny_execs_nil (hQ h10 _ g9.objs.size (fun b o hb e => up b o hb (kg b o e)) (gone kg) (hdr_more rg up P10 ⟨_, (hs10.2 _ hTl).trans (Heap.get?_push_size _ rfl), rfl, _, rfl⟩ (hO.new (gone kg))))
end
end Mine
end

-- R7
section
open PySem PyProof.Rows PySem.Calls PySem.Spec PySem.W
set_option maxRecDepth 100000
set_option autoImplicit false
set_option genSizeOf false
set_option genInjectivity false
set_option maxHeartbeats 2000000
namespace Mine
section
variable {K : Frag} {mg mb : Str → Option Value} {prog : Program} {w : World} {A : Around} {s : Shared}
theorem add_call (Y : Hand K mg mb) (hc : addChk K = true) (H : HPk K mg mb s.heap) (hh : A.handled = none) (hd : A.depth + 1 < recursionLimit) {O : List Addr} {x dx l : Addr} {xs : List (Str × Str)} {ts : List Addr} {k v : Str} {t u : Tok}
    (hk1 : okText k = true) (hk2 : k.length < 4096) (hv1 : okText v = true) (hv2 : v.length < 4096) (hxs : xs.length < 4096) (hO : Alive O s.heap) (r : HdrIs O s.heap x xs dx l ts) {Q E : Value → Shared → Prop}
    (hQ : ∀ h' tk T, (∀ b o, b ≠ l → s.heap.get? b = some o → h'.get? b = some o) → s.heap.get? T = none → HdrIs O h' x (xs ++ [(k, v)]) dx l (ts ++ [T]) → Q .none { s with heap := h', toks := tk }) :
    wpAny (model prog w) A (call (.ref 237) [.ref x, .str k t, .str v u]) Q E s := fdChkE hc fun fd body D hc => parE (and1 hc) fun ko kw P hk => o1O (and2 hk) fun g hg hga => by
  have hdf : fd.defaults = .none := of_decide_eq_true (and1 (and2 hc))
  have look : ∀ p ∈ addNames, fd.scope.names.lookup p.1 = some p.2 := of_decide_eq_true (and1 (and2 (and2 (and2 hc))))
  cases List.isEmpty_iff.mp (and1 hk)
  rw [hdf, hg] at P
  have hbd : bindArgs fd ⟨[.ref x, .str k t, .str v u], []⟩ = (do
      let d ← alloc { cls := .type "dict", data := .dict #[] }
      pure [(Str.ofString "self", Value.ref x), (Str.ofString "_name", .str k t), (Str.ofString "_value", .str v u), (g.arg, .ref d)]) := by
    rw [P.eta]
    exact args3E (P := fun ps => bindArgs (fdP fd ps [] .none (some g)) _ = _) P.ar fun _ _ _ _ _ _ => by kernel_rfl
  refine wpAny_call (enter_fn (Nat.lt_of_succ_lt hd) H D (and1 (and2 (and2 hc))) ?_)
  rw [hbd, (of_decide_eq_true hga : g.arg = Str.ofString "_params")]
  refine wpAny_bind (wpAny_alloc (wpAny_pure ⟨Kp.push _ _, allC (look _ (.head _)) (allC (look _ (.tail _ (.head _))) (allC (look _ (.tail _ (.tail _ (.head _)))) (allC (look _ (.tail _ (.tail _ (.tail _ (.head _))))) allN))), fun s₁ ic => ?_⟩))
  have hsz : (s.heap.push { cls := .type "dict", data := .dict #[] }).objs.size = s.heap.objs.size + 1 := Heap.size_push ..
  have hpd : (s.heap.push { cls := .type "dict", data := .dict #[] }).get? s.heap.objs.size = some { cls := .type "dict", data := .dict #[] } := Heap.get?_push_size _ rfl
  have kH : ∀ b o, s.heap.get? b = some o → (s.heap.push { cls := .type "dict", data := .dict #[] }).get? b = some o := fun b o e => Heap.get?_push_of_some _ e
  generalize s.heap.push { cls := .type "dict", data := .dict #[] } = H1 at ic hsz hpd kH ⊢
  have e : EnvIs (callEnvC fd H1.objs.size 237) fd.scope { s with heap := H1 } := env_is (s := { s with heap := H1 }) D
  generalize callEnvC fd H1.objs.size 237 = env at ic e ⊢
  have hloc : env.locals = s.heap.objs.size + 1 := e.locals.trans hsz
  have kp1 : ∀ b o, H1.get? b = some o → s₁.heap.get? b = some o := ic.toInCall.keep
  obtain ⟨⟨h1, t1, rfl⟩, _⟩ : Kp { s with heap := H1 } s₁ := ⟨ic.toInCall.same, ic.toInCall.keep⟩
  have nd : ([Str.ofString "self", Str.ofString "_name", Str.ofString "_value", Str.ofString "_params"] : List Str).Nodup := by decide +kernel
  have kd : ∀ i x k, addNames[i]? = some (x, k) → env.kindOf x = some k := fun i x k hi => (e.kind _).trans (look (x, k) (List.mem_of_getElem? hi))
  have hlt : s.heap.objs.size ≠ 1 := by
    obtain ⟨cd, hcd, _⟩ := any_some Y.C.dict
    obtain ⟨o, e'⟩ : ∃ o, s.heap.get? 240 = some o := by
      unfold clsIn at hcd
      cases q : K.lookup 240 with
      | none => rw [q] at hcd; cases hcd
      | some o => exact ⟨o, H.k _ _ q⟩
    exact fun q => absurd (Heap.lt_size e') (by show ¬ 240 < s.heap.objs.size; rw [q]; decide)
  exact add_body Y (x := x) (k := k) (v := v) (t := t) (u := u) (d := s.heap.objs.size) (and2 (and2 (and2 (and2 hc)))) ⟨e.isScope ▸ (of_decide_eq_true (and1 (and2 (and2 hc)))).1, kd 0 _ _ rfl, kd 1 _ _ rfl, kd 2 _ _ rfl, kd 3 _ _ rfl, kd 4 _ _ rfl⟩ hh hd ic.toInCall.ns
    (bindL_get _ _ _ _ nd (.head _) (kd 0 _ _ rfl)) (bindL_get _ _ _ _ nd (.tail _ (.head _)) (kd 1 _ _ rfl)) (bindL_get _ _ _ _ nd (.tail _ (.tail _ (.head _))) (kd 2 _ _ rfl)) (bindL_get _ _ _ _ nd (.tail _ (.tail _ (.tail _ (.head _)))) (kd 3 _ _ rfl))
    (kp1 _ _ hpd) (hloc ▸ Nat.ne_of_lt (Nat.lt_succ_self _)) (beq_false_of_ne hlt) hk1 hk2 hv1 hv2 (r.len ▸ hxs) H (fun b o e => kp1 b o (kH b o e)) (hloc ▸ new_ge (Nat.le_succ _)) hO r fun h' tk T a b c => hQ h' tk T a b c

/-! the constructor -/
noncomputable def initBody (body : List Stmt) : Bool := List.casesOn (motive := fun _ => Bool) body false fun s1 r => asgIs s1 "headers" (fun v => onIfExp v fun t _ e _ => cmp1 t .IsNot (fun l r => nameIs l "headers" && onConstant r fun c _ _ => decide (c = .none)) && onList e fun es _ => es.isEmpty) && l3 r fun s2 s3 s4 =>
  ifIs s2 (fun t _ => cmp1 t .IsNot fun l r => call1 l "type" "headers" && nameIs r "list") && (
  onAssign s3 (fun ts v _ => l1 ts fun t => onAttribute t fun o at1 _ => decide (at1 = "_headers") && (nameIs o "self" && nameIs v "headers")) &&
  ifIs s4 fun t b => (onConstant t fun c _ _ => decide (c = .bool true)) && l1 b fun f => onFor f fun _ it _ els _ => l0 els (nameIs it "headers"))
noncomputable def initNames : List (Str × NameKind) := [("self", .local), ("headers", .local), ("type", .globalImplicit), ("list", .globalImplicit)]
noncomputable def initChk (K : Frag) : Bool := fdChk K 132 fun fd body => parB fd ["self", "headers"] (fun ko kw => ko.isEmpty && kw.isNone) && (oneDef K fd.defaults && (plainScope fd.scope && (lookB fd.scope.names initNames && initBody body)))
structure InitEnv (env : Env) : Prop where
  kind : env.scope.kind = .function
  globals : env.globals = mainGlobals
  builtins : env.builtins = builtinsNs
  self : env.kindOf "self" = some .local
  h : env.kindOf "headers" = some .local
  t : env.kindOf "type" = some .globalImplicit
  li : env.kindOf "list" = some .globalImplicit
theorem ns1_one {h : Heap} {a : Addr} {o : Obj} {hs : Int} {x : Str} {t : Tok} {v : Value} {n : Nat} (e : h.get? a = some o) (d : o.data = .dict #[⟨hs, .str x t, v⟩] n) : h.Ns1 a fun y => if y = x then some v else none := by
  refine ⟨o, _, n, e, d, fun en hm => ?_, List.pairwise_singleton .., fun name => ?_⟩
  · cases List.mem_singleton.mp (Array.mem_toList_iff.mpr hm)
    exact ⟨x, t, rfl⟩
  · unfold nsFind findBy
    by_cases hn : name = x
    · subst hn
      simp [Value.isStr]
    · have : (x == name) = false := beq_false_of_ne (Ne.symm hn)
      simp [Value.isStr, hn, this]
theorem init_body (N : NmIs K mg mb) (C0 : ClsIs K) {env : Env} {body : List Stmt} {m : Str → Option Value} {x dx : Addr} {h0 : Heap} {Q : Flow → Shared → Prop} {E : Value → Shared → Prop} (hs : initBody body = true) (C : InitEnv env)
    (hh : A.handled = none) (F : PyProof.Rows.Fr h0 env.locals s.heap m) (Nw : News h0 env.locals s.heap [(x, instObj 240 dx), (dx, emptyDict)]) (hxd : x ≠ dx) (m1 : m "self" = some (.ref x)) (m2 : m "headers" = some .none) (H0 : HPk K mg mb h0)
    (hQ : ∀ h' tk l, (∀ b o, h0.get? b = some o → h'.get? b = some o) → h0.get? l = none → HdrIs [] h' x [] dx l [] → Q .next { s with heap := h', toks := tk }) : wpAny (model prog w) A (execs body env) Q E s := by
  have W := wdK K mg mb
  obtain ⟨nt, bt⟩ := N.none "type" (by decide +kernel)
  obtain ⟨nl, bl⟩ := N.none "list" (by decide +kernel)
  have bt : mb "type" = some (.type "type") := bt.trans (by decide +kernel)
  have bl : mb "list" = some (.type "list") := bl.trans (by decide +kernel)
  cases body with
  | nil => exact nomatch hs
  | cons s1 body =>
  refine l3E (P := fun body => wpAny _ _ (execs (s1 :: body) env) _ _ _) (and2 hs) fun s2 s3 s4 h2 => ?_
  -- headers = headers if headers is not None else []
  refine wpAny_execs_cons (asgIsE (P := fun s1 => wpAny _ _ (exec s1 env) _ _ _) (and1 hs) fun p1 v p2 hv => onIfExpE (P := fun v => wpAny _ _ (exec (.Assign _ v p2) env) _ _ _) hv fun tt y1 y2 p3 hv => cmp1E (P := fun tt => wpAny _ _ (exec (.Assign _ (.IfExp tt y1 y2 p3) p2) env) _ _ _) (and1 hv) fun l r p4 hc => nameIsE (P := fun l => wpAny _ _ (exec (.Assign _ (.IfExp (.Compare l [.IsNot] [r] p4) y1 y2 p3) p2) env) _ _ _) (and1 hc) fun p5 =>
    onConstantE (P := fun r => wpAny _ _ (exec (.Assign _ (.IfExp (.Compare _ [.IsNot] [r] p4) y1 y2 p3) p2) env) _ _ _) (and2 hc) fun c kk p6 hc => onListE (P := fun y2 => wpAny _ _ (exec (.Assign _ (.IfExp _ y1 y2 p3) p2) env) _ _ _) (and2 hv) fun es p7 he => ?_)
  cases (of_decide_eq_true hc : c = .none)
  cases List.isEmpty_iff.mp he
  refine wpAny_Assign_Name (wpAny_IfExp (wpAny_isTrue_Compare1 (loc_ok C.kind C.h F.ns m2 (by decide +kernel) (wpAny_Constant_none (isNot_none (wpAny_truthy_bool ?_)))) rfl)) rfl
  rw [show (!(Value.none == Value.none)) = false from rfl, if_neg Bool.false_ne_true]
  refine wpAny_List (wpAny_items_nil ⟨by decide, ?_⟩)
  have F1 := F.push { cls := .type "list", data := .seq ([] : List Value).toArray }
  have N1 := Nw.push F { cls := .type "list", data := .seq ([] : List Value).toArray }
  generalize hl : s.heap.objs.size = l at N1 ⊢
  have hln : h0.get? l = none := N1.fresh (.head _)
  refine wpAny_storeName_local C.h F1.ns (fun h2' hn2 hs2 => ?_) (by rw [C.kind]; rfl)
  have F2 := F1.set hn2 hs2
  have N2 := N1.set hs2
  have ms : (fun y => if y = Str.ofString "headers" then some (Value.ref l) else m y) (Str.ofString "self") = some (.ref x) := upd_ne (by decide +kernel) m1
  have L2 : PlainL h2' l #[] := ⟨_, _, N2.get (.head _), rfl, rfl, rfl⟩
  have H2 := W.mono _ _ F2.keep H0
  -- if type(headers) is not list
  refine wpAny_execs_cons (ifIsE (P := fun s2 => wpAny _ _ (exec s2 env) _ _ _) (and1 h2) fun tt bb q1 hc => cmp1E (P := fun tt => wpAny _ _ (exec (.If tt bb [] q1) env) _ _ _) hc fun a b q2 hc => call1E (P := fun a => wpAny _ _ (exec (.If (.Compare a [.IsNot] [b] q2) bb [] q1) env) _ _ _) (and1 hc) fun q3 q4 q5 => nameIsE (P := fun b => wpAny _ _ (exec (.If (.Compare _ [.IsNot] [b] q2) bb [] q1) env) _ _ _) (and2 hc) fun q6 =>
    wpAny_If (wpAny_isTrue_Compare1 (call_Name1 (bi_name_ok W (s := { s with heap := h2', toks := _ }) H2 C.kind C.globals C.builtins C.t (by decide +kernel) nt bt (PySem.callWith_type rfl (args_one (loc_ok C.kind C.h hn2 upd_eq (by decide +kernel) (call_type_of L2.isList.typeIs (by decide +kernel)
      (bi_name_ok W (s := { s with heap := h2', toks := _ }) H2 C.kind C.globals C.builtins C.li (by decide +kernel) nl bl (wpAny_pure (wpAny_truthy_bool ?_)))))))) ) rfl))
  rw [show (!(Value.type "list" == Value.type "list")) = false from rfl, if_neg Bool.false_ne_true]
  -- self._headers = headers
  refine wpAny_execs_nil (wpAny_execs_cons (onAssignE (P := fun s3 => wpAny _ _ (exec s3 env) _ _ _) (and1 (and2 h2)) fun ts v r1 hc => l1E (P := fun ts => wpAny _ _ (exec (.Assign ts v r1) env) _ _ _) hc fun t hc => onAttributeE (P := fun t => wpAny _ _ (exec (.Assign [t] v r1) env) _ _ _) hc fun o at1 r2 hc => nameIsE (P := fun o => wpAny _ _ (exec (.Assign [.Attribute o at1 r2] v r1) env) _ _ _) (and1 (and2 hc)) fun r3 => nameIsE (P := fun v => wpAny _ _ (exec (.Assign [.Attribute _ at1 r2] v r1) env) _ _ _) (and2 (and2 hc)) fun r4 => ?_))
  rw [(of_decide_eq_true (and1 hc) : at1 = Str.ofString "_headers")]
  refine plainObj_wpAny_Assign_Attribute (loc_ok C.kind C.h hn2 upd_eq (by decide +kernel) (loc_ok C.kind C.self hn2 ms (by decide +kernel) ?_)) rfl
  have I2 : PySem.W.InstAt h2' x (instObj 240 dx) 240 (some emptyDict) := ⟨N2.get (.tail _ (.head _)), rfl, rfl, N2.get (.tail _ (.tail _ (.head _)))⟩
  have hdl : l ≠ dx := fun e => by
    subst e
    exact nomatch congrArg Obj.cls (Option.some.inj ((N2.get (a := l) (.head _)).symm.trans (N2.get (a := l) (o := emptyDict) (.tail _ (.tail _ (.head _))))))
  refine PySem.W.set_plain (s := { s with heap := h2', toks := _ }) H2.k I2 C0.sa (osa_dict (s := { s with heap := h2', toks := _ }) (pre := [(l, _), (x, instObj 240 dx)]) (post := []) (es := [⟨_, _, _⟩]) F2 N2 H2.k I2 rfl C0.plain C0.taker C0.dict (by rfl) (allC hdl (allC hxd allN)) allN rfl rfl (Nat.le_of_ble_eq_true rfl) fun h3 F3 N3 => ?_)
  have L3 : PlainL h3 l #[] := ⟨_, _, N3.get (.head _), rfl, rfl, rfl⟩
  -- if __debug__: for ... in headers
  refine wpAny_execs_cons (ifIsE (P := fun s4 => wpAny _ _ (exec s4 env) _ _ _) (and2 (and2 h2)) fun tt bb q7 hc => onConstantE (P := fun tt => wpAny _ _ (exec (.If tt bb [] q7) env) _ _ _) (and1 hc) fun c kk q8 hc' => l1E (P := fun bb => wpAny _ _ (exec (.If (.Constant c kk q8) bb [] q7) env) _ _ _) (and2 hc) fun fs hc => onForE (P := fun fs => wpAny _ _ (exec (.If (.Constant c kk q8) [fs] [] q7) env) _ _ _) hc fun ft it fb els q9 hc => l0E (P := fun els => wpAny _ _ (exec (.If (.Constant c kk q8) [.For ft it fb els q9] [] q7) env) _ _ _) hc fun hc =>
    nameIsE (P := fun it => wpAny _ _ (exec (.If (.Constant c kk q8) [.For ft it fb [] q9] [] q7) env) _ _ _) hc fun q10 => ?_)
  rw [(of_decide_eq_true hc' : c = .bool true)]
  refine wpAny_If (wpAny_isTrue_value (wpAny_Constant_bool (wpAny_truthy_bool ?_)) rfl)
  rw [if_pos rfl]
  refine wpAny_execs_cons (wpAny_For (loc_ok C.kind C.h F3.ns upd_eq (by decide +kernel) (wpAny_pyIter_list (s := { s with heap := h3, toks := _ }) L3.isList ?_)) (fun _ => rfl))
  have F4 := F3.push { cls := .type "list_iterator", data := .fields #[.ref l, .int 0 0] }
  have N4 := N3.push F3 { cls := .type "list_iterator", data := .fields #[.ref l, .int 0 0] }
  have k34 : ∀ b o, h3.get? b = some o → (h3.push { cls := .type "list_iterator", data := .fields #[.ref l, .int 0 0] }).get? b = some o := fun b o e => Heap.get?_push_of_some _ e
  have neIt : ∀ a o, h3.get? a = some o → a ≠ h3.objs.size := fun a o e => Nat.ne_of_lt (Heap.lt_size e)
  generalize h3.objs.size = it at N4 neIt ⊢
  generalize h3.push { cls := .type "list_iterator", data := .fields #[.ref l, .int 0 0] } = h4 at F4 N4 k34 ⊢
  refine codeAny_forLoop_any (fun n s' => n = 0 ∧ ∃ tk, s' = { s with heap := h4, toks := tk }) ?_ 0 ⟨rfl, _, rfl⟩
  rintro n s' ⟨rfl, tk6, rfl⟩
  refine wpAny_pyNext_list_end (items := #[]) (i := 0) hh ⟨_, N4.get (.head _), rfl, rfl⟩ ⟨_, N4.get (.tail _ (.head _)), rfl, _, rfl⟩ rfl fun h5 he5 => wpAny_execs_nil (wpAny_execs_nil (wpAny_execs_nil ?_))
  have itf : h0.get? it = none := N4.fresh (.head _)
  have up : ∀ a o, h3.get? a = some o → h5.get? a = some o := fun a o e => he5 a o (neIt a o e) (k34 a o e)
  exact hQ h5 _ l (fun b o e => he5 b o (fun e' => by subst e'; exact nomatch itf.symm.trans e) (F4.keep b o e)) hln ⟨List.not_mem_nil, List.not_mem_nil, List.not_mem_nil, hxd.symm, ⟨_, up _ _ (N3.get (a := x) (o := instObj 240 dx) (.tail _ (.head _))), rfl, rfl, fun c e => nomatch e⟩, ns1_one (up _ _ (N3.get (a := dx) (.tail _ (.tail _ (.head _))))) rfl, L3.keeps up, rfl, fun t p hm => nomatch hm⟩
theorem new_call {K : Frag} (N : NmIs K mg mb) (C0 : ClsIs K) (hc : initChk K = true) (H : HPk K mg mb s.heap) (hh : A.handled = none) (hd : A.depth + 1 < recursionLimit) {pos : Pos} {Q E : Value → Shared → Prop}
    (hQ : ∀ x dx l s', Kp s s' → s.heap.get? x = none → s.heap.get? dx = none → s.heap.get? l = none → HdrIs [] s'.heap x [] dx l [] → Q (.ref x) s') : wpAny (model prog w) A (callWith pos (.ref 240) [] [] []) Q E s := fdChkE hc fun fd body D hc => parE (and1 hc) fun ko kw P hk => by
  have look : ∀ p ∈ initNames, fd.scope.names.lookup p.1 = some p.2 := of_decide_eq_true (and1 (and2 (and2 (and2 hc))))
  cases List.isEmpty_iff.mp (and1 hk)
  cases Option.isNone_iff_eq_none.mp (and2 hk)
  obtain ⟨T, tn, hdf, hT⟩ := oneDef_at (and1 (and2 hc))
  rw [hdf] at P
  refine callWith_K0 (env := default) H.k C0.keep (wpAny_call ?_)
  obtain ⟨h, g, d, t, os⟩ := s
  refine make_core (init := .ref 132) (makes_of H.k C0.makes) (looks_findIn H.k C0.ini) (fun self => bind_fn H.k self C0.fn) (.inl rfl) ?_
  have k1 : ∀ b o, h.get? b = some o → ((h.push emptyDict).push (instObj 240 h.objs.size)).get? b = some o := fun b o e => Heap.get?_push_of_some _ (Heap.get?_push_of_some _ e)
  have H1 := (wdK K mg mb).mono _ _ k1 H
  refine enter_fn hd H1 D (and1 (and2 (and2 hc))) ?_
  obtain ⟨od, hod, hds⟩ := hT _ H1.k
  have hbd : BindsTo ⟨(h.push emptyDict).push (instObj 240 h.objs.size), g, d, t, os⟩ fd ⟨[.ref (h.objs.size + 1)], []⟩ [(Str.ofString "self", .ref (h.objs.size + 1)), (Str.ofString "headers", .none)] := by
    rw [P.eta]
    exact args2E (P := fun ps => BindsTo _ (fdP fd ps [] (.ref T) none) _ _) P.ar fun _ _ _ _ => .of_defaults rfl hod hds (by rfl) (by kernel_rfl)
  refine hbd _ _ _ _ ⟨Kp.refl _, allC (look _ (.head _)) (allC (look _ (.tail _ (.head _))) allN), fun s₁ ic => ?_⟩
  have hsz : ((h.push emptyDict).push (instObj 240 h.objs.size)).objs.size = h.objs.size + 2 := by rw [Heap.size_push, Heap.size_push]
  have g1 : ((h.push emptyDict).push (instObj 240 h.objs.size)).get? (h.objs.size + 1) = some (instObj 240 h.objs.size) := Heap.size_push h emptyDict ▸ Heap.get?_push_size _ rfl
  have g2 : ((h.push emptyDict).push (instObj 240 h.objs.size)).get? h.objs.size = some emptyDict := Heap.get?_push_of_some _ (Heap.get?_push_size _ rfl)
  clear hod hbd
  generalize (h.push emptyDict).push (instObj 240 h.objs.size) = H1' at ic k1 hsz g1 g2 ⊢
  have e : EnvIs (callEnvC fd H1'.objs.size 132) fd.scope ⟨H1', g, d, t, os⟩ := env_is (s := ⟨H1', g, d, t, os⟩) D
  generalize callEnvC fd H1'.objs.size 132 = env at ic e ⊢
  have hloc : env.locals = h.objs.size + 2 := e.locals.trans hsz
  have kp1 : ∀ b o, H1'.get? b = some o → s₁.heap.get? b = some o := ic.toInCall.keep
  obtain ⟨⟨h1, t1, rfl⟩, _⟩ : Kp ⟨H1', g, d, t, os⟩ s₁ := ⟨ic.toInCall.same, ic.toInCall.keep⟩
  have nd : ([Str.ofString "self", Str.ofString "headers"] : List Str).Nodup := by decide +kernel
  have kd : ∀ i x k, initNames[i]? = some (x, k) → env.kindOf x = some k := fun i x k hi => (e.kind _).trans (look (x, k) (List.mem_of_getElem? hi))
  have F : PyProof.Rows.Fr h env.locals h1 _ := ⟨ic.toInCall.ns, fun b o e => kp1 b o (k1 b o e), hloc ▸ Nat.le_add_right _ 2⟩
  have Nw : News h env.locals h1 [(h.objs.size + 1, instObj 240 h.objs.size), (h.objs.size, emptyDict)] := allC ⟨kp1 _ _ g1, hloc ▸ Nat.ne_of_lt (Nat.lt_succ_self _), new_ge (Nat.le_succ _)⟩ (allC ⟨kp1 _ _ g2, hloc ▸ Nat.ne_of_lt (Nat.lt_add_of_pos_right (by decide)), new_ge (Nat.le_refl _)⟩ allN)
  exact init_body N C0 (and2 (and2 (and2 (and2 hc)))) ⟨e.isScope ▸ (of_decide_eq_true (and1 (and2 (and2 hc)))).1, e.globals, e.builtins, kd 0 _ _ rfl, kd 1 _ _ rfl, kd 2 _ _ rfl, kd 3 _ _ rfl⟩ hh F Nw (Nat.succ_ne_self _) (bindL_get _ _ _ _ nd (.head _) (kd 0 _ _ rfl)) (bindL_get _ _ _ _ nd (.tail _ (.head _)) (kd 1 _ _ rfl)) H
    fun h' tk l k0 hl r => ⟨rfl, hQ _ _ l _ ⟨⟨h', tk, rfl⟩, k0⟩ (new_ge (Nat.le_succ _)) (new_ge (Nat.le_refl _)) hl r⟩
end
end Mine
end

-- R8
section
open PySem PyProof.Rows PySem.Calls PySem.Spec PySem.W
set_option maxRecDepth 100000
set_option autoImplicit false
set_option genSizeOf false
set_option genInjectivity false
namespace Mine
noncomputable def chkAll (K : Frag) : Bool := namesChk K && (clsChk K && (patChk K 104 103 nameCode.toList && (patChk K 109 108 valueCode.toList && (convChk K && (addChk K && (initChk K && tab.all (dnChk K)))))))
theorem bnds : ∀ e ∈ tab.take 24, Bnd e.names :=
  have n_a : Bnd ["a"] := fun fd ps vs h hl => len1E hl fun v => args1E h fun _ _ => by kernel_rfl
  have n_num : Bnd ["num"] := fun fd ps vs h hl => len1E hl fun v => args1E h fun _ _ => by kernel_rfl
  have n_places : Bnd ["places"] := fun fd ps vs h hl => len1E hl fun v => args1E h fun _ _ => by kernel_rfl
  have n_number : Bnd ["number"] := fun fd ps vs h hl => len1E hl fun v => args1E h fun _ _ => by kernel_rfl
  have n_bits : Bnd ["bits"] := fun fd ps vs h hl => len1E hl fun v => args1E h fun _ _ => by kernel_rfl
  have n_row : Bnd ["row"] := fun fd ps vs h hl => len1E hl fun v => args1E h fun _ _ => by kernel_rfl
  have n_larger : Bnd ["larger"] := fun fd ps vs h hl => len1E hl fun v => args1E h fun _ _ => by kernel_rfl
  have n_vector : Bnd ["vector"] := fun fd ps vs h hl => len1E hl fun v => args1E h fun _ _ => by kernel_rfl
  have n_book : Bnd ["book"] := fun fd ps vs h hl => len1E hl fun v => args1E h fun _ _ => by kernel_rfl
  have n_told : Bnd ["told"] := fun fd ps vs h hl => len1E hl fun v => args1E h fun _ _ => by kernel_rfl
  have n_v : Bnd ["v"] := fun fd ps vs h hl => len1E hl fun v => args1E h fun _ _ => by kernel_rfl
  have n_script : Bnd ["script"] := fun fd ps vs h hl => len1E hl fun v => args1E h fun _ _ => by kernel_rfl
  have n_self : Bnd ["self"] := fun fd ps vs h hl => len1E hl fun v => args1E h fun _ _ => by kernel_rfl
  have m_0 : Bnd ["a", "b"] := fun fd ps vs h hl => len2E hl fun v w => args2E h fun _ _ _ _ => by kernel_rfl
  have m_1 : Bnd ["ch_a", "ch_b"] := fun fd ps vs h hl => len2E hl fun v w => args2E h fun _ _ _ _ => by kernel_rfl
  have m_2 : Bnd ["rows", "width"] := fun fd ps vs h hl => len2E hl fun v w => args2E h fun _ _ _ _ => by kernel_rfl
  have m_3 : Bnd ["top", "larger"] := fun fd ps vs h hl => len2E hl fun v w => args2E h fun _ _ _ _ => by kernel_rfl
  have o_0 : Bnd ["a", "b", "max_cost"] := fun fd ps vs h hl => len3E hl fun v w x => args3E h fun _ _ _ _ _ _ => by kernel_rfl
  have o_1 : Bnd ["v", "u", "turn"] := fun fd ps vs h hl => len3E hl fun v w x => args3E h fun _ _ _ _ _ _ => by kernel_rfl
  have o_2 : Bnd ["row", "base", "col"] := fun fd ps vs h hl => len3E hl fun v w x => args3E h fun _ _ _ _ _ _ => by kernel_rfl
  allC m_0 (allC n_a (allC m_0 (allC m_0 (allC m_0 (allC n_num (allC m_1 (allC o_0 (allC n_places (allC n_number (allC n_number (allC n_bits (allC o_1 (allC n_row (allC o_2 (allC m_2 (allC n_larger (allC n_vector (allC n_book (allC n_told (allC n_v (allC m_3 (allC n_script (allC n_self (allN))))))))))))))))))))))))
section
variable {K : Frag} {mg mb : Str → Option Value} {prog : Program} {w : World} {n : Nat}
noncomputable abbrev ctxOf (C : Calls0 prog w (HPk K mg mb) mg mb cx0.fn cx0.gl n (GG n)) : Ctx := ⟨prog, w, HPk K mg mb, mg, mb, cx0, n, GG n, C⟩
theorem fn_is (C : Calls0 prog w (HPk K mg mb) mg mb cx0.fn cx0.gl n (GG n)) {e : Dn} (he : e ∈ tab) (h : dnChk K e = true) : FnIs (ctxOf C) e.a e.Δ e.fn := fun h' H => fdChkE h fun fd body D hc => parE (and1 hc) fun ko kw P hk => by
  have o := fnChk_ok (and1 (and2 (and2 hc)))
  cases List.isEmpty_iff.mp (and1 hk)
  cases Option.isNone_iff_eq_none.mp (and2 hk)
  have hl : e.names.length = e.fn.n := by rw [Dn.names, List.length_map, List.length_take]; exact Nat.min_eq_left o.few
  refine ⟨fd, body, fdK_at H.k D.at_, codeRec_of H.k D.code, D.isBody, D.globals, D.closure, D.builtins, o, and2 (and2 (and2 hc)), fun s vs hs hv => ?_⟩
  have hd := and1 (and2 hc)
  rcases List.mem_append.mp (show e ∈ tab.take 24 ++ tab.drop 24 from he) with he | he
  · rw [decide_eq_false ((by decide +kernel : ∀ e ∈ tab.take 24, e.a ≠ 187) e he)] at hd
    rw [of_decide_eq_true (p := fd.defaults = .none) hd] at P
    exact (bnds e he).s P (hv.trans hl.symm)
  · cases List.mem_singleton.mp he
    obtain ⟨T, tn, hdf, hT⟩ := oneDef_at hd
    rw [hdf] at P
    obtain ⟨od, hod, hds⟩ := hT _ H.k
    rw [P.eta]
    exact ⟨len3E hv fun v w x => args3E (P := fun ps => BindsTo s (fdP fd ps [] (.ref T) none) _ _) P.ar fun _ _ _ _ _ _ => .of_defaults rfl (hs ▸ hod) hds (by rfl) (by kernel_rfl)⟩
/-- a def's contract at its level -/
theorem tab_at {f : Nat} (h : f < 25) : ∃ e, tab[f]? = some e := ⟨_, List.getElem?_eq_getElem (show f < tab.length from h)⟩
theorem gg_step {f : Nat} {e : Dn} {args : List PV} (he : tab[f]? = some e) : GG (n + 1) f args = run (GG n) e.fn args := by
  have : fnOf f = some e.fn := by rw [fnOf, List.getElem?_map, he]; rfl
  show Option.casesOn (motive := fun _ => Option PV) (fnOf f) _ _ = _
  rw [this]
theorem dn_ok (C : Calls0 prog w (HPk K mg mb) mg mb cx0.fn cx0.gl n (GG n)) (Y : KOk (ctxOf C)) (ht : tab.all (dnChk K) = true) {f : Nat} {e : Dn} {args : List PV} {pv : PV} (he : tab[f]? = some e) (h : GG (n + 1) f args = some pv) : CallOk prog w (HPk K mg mb) (n + 1) e.a args pv :=
  fn_ok Y (fn_is C (List.mem_of_getElem? he) (List.all_eq_true.mp ht e (List.mem_of_getElem? he))) ((gg_step he).symm.trans h)
theorem bi_names : ∀ b : BI, biName b ∈ noneNames ∧ bootBuiltins (biName b) = some (biVal b) := fun b => by
  cases b <;> exact ⟨by decide +kernel, by decide +kernel⟩
theorem base_of (Y : Hand K mg mb) {Γ : Nat → List PV → Option PV}
    (d : ∀ f, f < 23 → ∀ args pv, Γ f args = some pv → ∃ a, mg (cx0.fn f) = some (.ref a) ∧ (∀ h, HPk K mg mb h → ∃ o fd, h.get? a = some o ∧ o.data = .func fd) ∧ CallOk prog w (HPk K mg mb) n a args pv)
    (hc : ∀ (m : MI) (args : List PV) (pv : PV), Γ (hfid m) args = some pv → ∃ f, hTable.lookup (miName m) = some f ∧ CallOk prog w (HPk K mg mb) n f args pv)
    (hv : ∀ (hs : List (Str × Str)) (x : Str) (pv : PV), Γ 25 [.hdr hs, .str x] = some pv → pv = .str x ∧ okText x = true ∧ x.length < 4096 ∧ 0 < n) : Calls0 prog w (HPk K mg mb) mg mb cx0.fn cx0.gl n Γ where
  wd := wdK K mg mb
  def_ := d
  bi := fun b => ⟨(Y.N.none _ (bi_names b).1).1, (Y.N.none _ (bi_names b).1).2.trans (bi_names b).2⟩
  seqs := have t : ∀ x ∈ noneNames, ∀ v, bootBuiltins x = some v → mg x = none ∧ mb x = some v := fun x hx v e => ⟨(Y.N.none x hx).1, (Y.N.none x hx).2.trans e⟩
    let ⟨a, b⟩ := t "range" (by decide +kernel) _ (by decide +kernel)
    let ⟨c, d⟩ := t "zip" (by decide +kernel) _ (by decide +kernel)
    let ⟨e, f⟩ := t "enumerate" (by decide +kernel) _ (by decide +kernel)
    ⟨a, b, c, d, e, f⟩
  gl := fun x i hm => Y.N.gl (x, i) hm
  hm := fun name f hf A O s x dx l xs ts pl Q E hp r hq => k_hm Y.C hf hp r hq
  hfn := fun name f hf h H => k_hfn Y.C hf H
  hcall := hc
  hattr := fun A O s x dx l xs ts Q E hp r hq => k_hattr Y.C hp r hq
  hconv := fun hs x pv e =>
    let ⟨e1, e2, e3, hn⟩ := hv hs x pv e
    ⟨e1, fun A s self t b hA hp Q E hq => conv_call Y.N Y.p1 Y.p2 Y.conv hp (Nat.lt_of_le_of_lt (Nat.le_add_right _ _) hA.depth) e2 e3 hq⟩
/-- what is called from the text, with n levels below -/
structure Lvl (K : Frag) (mg mb : Str → Option Value) (prog : Program) (w : World) (n : Nat) : Prop where
  C : Calls0 prog w (HPk K mg mb) mg mb cx0.fn cx0.gl n (GG n)
  Y : KOk (ctxOf C)
theorem lvl (Y : Hand K mg mb) (ha : addChk K = true) (hi : initChk K = true) (ht : tab.all (dnChk K) = true) : ∀ n, Lvl K mg mb prog w n
  | 0 => ⟨base_of Y (fun _ _ _ _ e => none_some e) (fun _ _ _ e => none_some e) fun _ _ _ e => none_some e, ⟨Y.N.hd, fun e => (nomatch e), fun _ _ e => nomatch e⟩⟩
  | n + 1 => by
    obtain ⟨C, Z⟩ := lvl Y ha hi ht n
    have up : ∀ {A : Around}, AOk (n + 1) A → A.depth + 1 < recursionLimit := fun hA => by
      have := hA.depth
      omega
    refine ⟨base_of Y (fun f hf args pv e => ?_) (fun m args pv e => ?_) fun hs x pv e => ifE (show (if okText x = true ∧ x.length < 4096 then some (PV.str x) else none) = some pv from e) fun q e => ⟨(Option.some.inj e).symm, q.1, q.2, Nat.succ_pos _⟩, ⟨Y.N.hd,
      fun _ A s pos hA hp Q E hq => new_call Y.N Y.C hi hp hA.handled (up hA) hq, fun k v e A O s x dx l xs ts t u hr hA hp hO r Q E hq => ?_⟩⟩
    · obtain ⟨e', he⟩ := tab_at (Nat.lt_trans hf (by decide))
      have hd := List.all_eq_true.mp ht e' (List.mem_of_getElem? he)
      exact ⟨e'.a, (congrArg mg (show ((tab[f]?).map (·.name)).getD Str.empty = e'.name by rw [he]; rfl)).trans (Y.N.defs e' (List.mem_of_getElem? (i := f) (by rw [List.getElem?_take, if_pos hf]; exact he))), fun h H => fdChkE hd fun fd body D _ => let ⟨o, a, b⟩ := fdK_at H.k D.at_; ⟨o, fd, a, b⟩, dn_ok C Z ht he e⟩
    · cases m with
      | lower => exact nomatch (show (none : Option PV) = some pv from e)
      | join => exact nomatch (show (none : Option PV) = some pv from e)
      | keys => exact ⟨192, by rfl, dn_ok C Z ht (e := ⟨"keys", 192, p_h_keys_names, p_h_keys⟩) (by rfl) e⟩
      | get => exact ⟨187, by rfl, dn_ok C Z ht (e := ⟨"get", 187, p_h_get_names, p_h_get⟩) (by rfl) e⟩
    · have e' : (if okText k = true ∧ k.length < 4096 ∧ okText v = true ∧ v.length < 4096 then some PV.none else none).isSome = true := e
      by_cases q : okText k = true ∧ k.length < 4096 ∧ okText v = true ∧ v.length < 4096
      · exact add_call Y ha hp hA.handled (up hA) q.1 q.2.1 q.2.2.1 q.2.2.2 (room_lt hr) hO r hq
      · rw [if_neg q] at e'
        exact nomatch e'
/-! the law's call, from its pure run -/
theorem caller_ok : AOk 5 callerA := ⟨rfl, by decide +kernel, by decide +kernel⟩
theorem law_call {s : Shared} (hb : ∀ x : Str, x ≠ "__name__" → mb x = bootBuiltins x) (hc : chkAll K = true) (H : HPk K mg mb s.heap) : mg "law" = some (.ref 327) ∧ ∀ {l : Addr} {vs : List Value} {ns : List Int} {R : Result → Shared → Prop}, GG 5 22 [.lst (ns.map .int)] = some (.bool true) → s.heap.IsList l vs.toArray → IntsAre vs ns → (∀ s', Kp s s' → R (.ok (.ret (.bool true))) s') →
    codeAny (model prog w) callerA (.call (.ref 327) ⟨[.ref l], []⟩) R s := by
  have N := nm_of H hb (and1 hc)
  have c2 := and2 (and2 (and2 (and2 hc)))
  have ht := and2 (and2 (and2 c2))
  obtain ⟨C, Z⟩ := lvl (prog := prog) (w := w) ⟨cls_is (and1 (and2 hc)), N, and1 (and2 (and2 hc)), and1 (and2 (and2 (and2 hc))), and1 c2⟩ (and1 (and2 c2)) (and1 (and2 (and2 c2))) ht 4
  have he : tab[22]? = some ⟨"law", 327, p_law_names, p_law⟩ := rfl
  refine ⟨N.defs ⟨"law", 327, p_law_names, p_law⟩ (List.mem_of_getElem? (i := 22) rfl), fun hp hl hi hR => ?_⟩
  exact fn_code (O := []) Z (fn_is C (List.mem_of_getElem? he) (List.all_eq_true.mp ht _ (List.mem_of_getElem? he))) ((gg_step he).symm.trans hp) caller_ok H allN (.cons (.lst List.not_mem_nil hl (.ofInts hi)) .nil) fun v s' k r => by
    cases r
    exact hR s' k
end
end Mine
end

-- H1
section
open PySem PySem.W PyProof.Rows PySem.Calls PySem.Spec
set_option maxRecDepth 100000
set_option maxHeartbeats 0
set_option Elab.async false
namespace Mine
noncomputable abbrev pw : Program := PySem.Challenge.pw_wj0068_01
noncomputable def vw : Program := { pw with main := { pw.main with body := pw.main.body.take 1 ++ pw.main.body.drop 37 } }
noncomputable def lo : List Str := (pw.main.scope.names.map (·.1)).filter fun x => x != Str.ofString "law" && x != Str.ofString "_sre" && x != Str.ofString "__name__"
/-- the heap as a fragment -/
noncomputable def fragGo : Nat → List Obj → Frag
  | _, [] => []
  | i, o :: l => Option.casesOn (motive := fun _ => Frag) ((Heap.mk #[o] {}).get? 0) (fragGo (i + 1) l) fun o => (i, o) :: fragGo (i + 1) l
noncomputable def frag (h : Heap) : Frag := fragGo 0 h.objs.toList
theorem get_one (h : Heap) (a : Addr) : h.get? a = h.objs[a]?.bind fun o => (Heap.mk #[o] {}).get? 0 := by
  unfold Heap.get?
  cases h.objs[a]? <;> rfl
theorem frag_go {a : Addr} {o : Obj} : ∀ (l : List Obj) (i : Nat), (fragGo i l).lookup a = some o → ∃ k, a = i + k ∧ (l[k]?.bind fun o => (Heap.mk #[o] {}).get? 0) = some o
  | [], _, h => nomatch h
  | x :: l, i, h => by
    have next : (fragGo (i + 1) l).lookup a = some o → ∃ k, a = i + k ∧ ((x :: l)[k]?.bind fun o => (Heap.mk #[o] {}).get? 0) = some o := fun h =>
      let ⟨k, e, q⟩ := frag_go l (i + 1) h
      ⟨k + 1, e.trans (by rw [Nat.add_assoc, Nat.add_comm 1 k]), q⟩
    unfold fragGo at h
    cases hx : (Heap.mk #[x] {}).get? 0 with
    | none => rw [hx] at h; exact next h
    | some y =>
      rw [hx] at h
      have h : ((i, y) :: fragGo (i + 1) l).lookup a = some o := h
      rw [List.lookup_cons] at h
      cases e : a == i with
      | true =>
        rw [e] at h
        exact ⟨0, beq_iff_eq.mp e, hx.trans h⟩
      | false => rw [e] at h; exact next h
theorem frag_in (h : Heap) : (frag h).In h := fun a o e => by
  obtain ⟨k, rfl, q⟩ := frag_go _ _ e
  rw [get_one, Nat.zero_add, ← Array.getElem?_toList]
  exact q
noncomputable abbrev rowL : OpenRow := PySem.Challenge.rw_wj0068_01.row
noncomputable def dL : DefRec × List (Str × Expr) := (defOf vw (Str.ofString "law")).getD (⟨Str.empty, ⟨[], [], none, [], [], none, []⟩, [], ⟨.function, [], false, false, []⟩, ⟨0, 0, 0, 0⟩⟩, [])
theorem looks_ok : ∀ w, ((opens pw w 3638).bind fun s₀ => (topT pw w 3638 s₀).map fun s => looksT pw vw lo (fun s => recOk (RowW.records rowL.toRowW) s) s₀ s.abs) = some (true, openGood vw lo) := fun w => by kernel_rfl
theorem chk_ok : ∀ w, ((opens pw w 3638).bind fun s₀ => (topT pw w 3638 s₀).map fun s => chkAll (frag s.abs.heap)) = some true := fun w => by kernel_rfl
theorem left_ : LeftO pw vw lo (fun s => recOk (RowW.records rowL.toRowW) s) (fun s => chkAll (frag s.heap)) (fun _ => true) 3638 := left_of (Yf := fun s => chkAll (frag s.heap)) (Ya := fun _ => true) looks_ok chk_ok
theorem said : PySem.Challenge.rw_wj0068_01.wellSaid = true := by
  rw [PySem.W.Fast.te9446332074065402090]
  delta PySem.W.Fast.tw9446332074065402090 PySem.W.Fast.tw17960256430627541270 PySem.W.Fast.tw2436336058641802641 PySem.W.Fast.tw12908688711261696721
  repeat' (with_reducible refine look_both ?_ ?_)
  all_goals decide +kernel
theorem head (call : WalkO vw lo (fun _ _ => True) (fun _ h => ∃ K : Frag, K.In h ∧ chkAll K = true) rowL.toRowW dL.1 dL.2 fun f vs => PySem.call f vs) : PySem.Challenge.rw_wj0068_01.Holds := by
  refine holds_law (l := PySem.Challenge.rw_wj0068_01) said fun said0 => ?_
  refine PySem.W.holds_open (r := rowL) (q := vw) (loose := lo) (XP := fun _ _ => True) (d := dL.1) (kwd := dL.2) left_ (fun w s e => ⟨frag s.heap, frag_in _, e⟩) (fun w h h' x k => let ⟨K, a, b⟩ := x; ⟨K, a.keeps k, b⟩) (fun _ _ => trivial) (fun _ _ _ _ _ => trivial) ?_ ?_ ?_ (fun s e => recFacts_of e) ?_ said0 ?_ ?_ ?_ call
  · kernel_rfl
  · kernel_rfl
  · kernel_rfl
  · kernel_rfl
  · kernel_rfl
  · exact ⟨rfl, rfl, rfl, rfl, rfl, by decide +kernel⟩
  · show PySem.Challenge.rw_wj0068_01.row.toRowW.promised
    w_witness2
end Mine
end

-- L0
section
open PySem
set_option maxRecDepth 100000
set_option autoImplicit false
set_option genSizeOf false
set_option genInjectivity false
namespace Mine
/-- a list of ints as a value -/
noncomputable abbrev iL (l : List Int) : PV := .lst (l.map .int)
theorem intsOf_iL (l : List Int) : intsOf (l.map .int) = some l := intsOf_map l
theorem compGo_map {α : Type} {f : PV → Option (Option PV)} {inj : α → PV} {g : α → PV} : ∀ {l : List α}, (∀ x ∈ l, f (inj x) = some (some (g x))) → compGo f (l.map inj) = some (l.map g)
  | [], _ => rfl
  | x :: r, h => by
    show (f (inj x)).bind _ = _
    rw [h x (.head _), Option.bind_some, compGo_map fun y hy => h y (.tail _ hy)]
    rfl
theorem compGo_filter {α : Type} {f : PV → Option (Option PV)} {inj : α → PV} {p : α → Bool} {g : α → PV} : ∀ {l : List α}, (∀ x ∈ l, f (inj x) = some (if p x then some (g x) else none)) → compGo f (l.map inj) = some ((l.filter p).map g)
  | [], _ => rfl
  | x :: r, h => by
    show (f (inj x)).bind _ = _
    rw [h x (.head _), Option.bind_some, compGo_filter (p := p) (g := g) fun y hy => h y (.tail _ hy), List.filter_cons]
    cases p x <;> rfl
/-- range(n) -/
noncomputable def rg (n : Nat) : List Int := (List.range n).map fun (i : Nat) => (i : Int)
theorem rangeOf_n {n : Nat} (h : n < 4096) : rangeOf [.int (n : Int)] = some (rg n) := by
  show (if -4096 ≤ (n : Int) ∧ (n : Int) < 4096 then some (rangeP 0 (n : Int) 1) else none) = _
  rw [if_pos (by omega)]
  unfold rangeP rg
  have : (Builtin.Range.rangeSize 0 (n : Int) 1).toNat = n := by
    unfold Builtin.Range.rangeSize
    split <;> simp <;> omega
  rw [this]
  congr 1
  apply List.map_congr_left
  intro i _
  omega
theorem mem_rg {n : Nat} {x : Int} : x ∈ rg n ↔ 0 ≤ x ∧ x < n := by
  unfold rg
  simp only [List.mem_map, List.mem_range]
  constructor
  · rintro ⟨i, hi, rfl⟩; omega
  · rintro ⟨h1, h2⟩; exact ⟨x.toNat, by omega, by omega⟩
theorem room_ok {n : Nat} (h : n < 4096) : room n = true := decide_eq_true h
theorem idx_iL {l : List Int} {i : Nat} {x : Int} (hi : i < 4096) (h : l[i]? = some x) : idxP (iL l) (i : Int) = some (.int x) := by
  show (if 0 ≤ (i : Int) ∧ (i : Int) < 4096 then (l.map PV.int)[(i : Int).toNat]? else none) = _
  rw [if_pos (by omega)]
  simp [h]
theorem big_of {a : Int} (h : a.natAbs < 2 ^ 512) : big a = true := decide_eq_true h
/-- law_sign -/
noncomputable def sg (v : Nat) : Int := [1, -1, -1, 1, -1, 1, 1, -1, -1, 1, 1, -1, 1, -1, -1, 1].getD v 0
theorem g_sign {n v : Nat} (h : v < 16) : GG (n + 1) 8 [.int (v : Int)] = some (.int (sg v)) := by
  match v, h with
  | 0, _ => rfl
  | 1, _ => rfl
  | 2, _ => rfl
  | 3, _ => rfl
  | 4, _ => rfl
  | 5, _ => rfl
  | 6, _ => rfl
  | 7, _ => rfl
  | 8, _ => rfl
  | 9, _ => rfl
  | 10, _ => rfl
  | 11, _ => rfl
  | 12, _ => rfl
  | 13, _ => rfl
  | 14, _ => rfl
  | 15, _ => rfl
  | k + 16, h => omega
theorem g_mul {n : Nat} {a b : Int} (ha : big a = true) (hb : big b = true) : GG (n + 1) 0 [.int a, .int b] = some (.int (a * b)) := by
  show run (GG n) p_mul [.int a, .int b] = _
  show (((if (big a && big b) = true then some (PV.int (a * b)) else none).bind fun v => some (({ vals := [some (.int a), some (.int b)] } : PE), some v)).bind (after fun ρ => some (ρ, none))).bind (·.2) = _
  rw [if_pos (by rw [ha, hb]; rfl)]
  rfl
theorem g_neg {n : Nat} {a : Int} : GG (n + 1) 1 [.int a] = some (.int (-a)) := rfl
theorem g_sub {n : Nat} {a b : Int} : GG (n + 1) 2 [.int a, .int b] = some (.int (a - b)) := rfl
theorem g_xor {n : Nat} {a b : Int} : GG (n + 1) 3 [.int a, .int b] = some (.int (Builtin.bitXor a b)) := rfl
end Mine
end

-- L1
section
open PySem
set_option maxRecDepth 100000
set_option autoImplicit false
set_option genSizeOf false
set_option genInjectivity false
set_option linter.unusedSimpArgs false
set_option linter.unusedVariables false
namespace Mine
noncomputable def Runs (Γ : Nat → List PV → Option PV) (b : SL) (ρ : PE) (v : PV) : Prop := ∃ ρe, exs Γ b ρ = some (ρe, some v)
section
variable {Γ : Nat → List PV → Option PV} {r b : SL} {ρ ρ' : PE} {v w : PV} {e : E} {i j : Nat}
theorem bs {α β : Type} {o : Option α} {x : α} {f : α → Option β} {z : Option β} (h : o = some x) (k : f x = z) : o.bind f = z := by
  rw [h]
  exact k
theorem run_eq {f : Fn} {args : List PV} (hl : args.length = f.n) (h : Runs Γ f.body { vals := args.map some ++ List.replicate (f.slots - f.n) none } v) : run Γ f args = some v := let ⟨_, h⟩ := h; (if_pos hl).trans (bs h rfl)
theorem run_at {f : Fn} {args : List PV} (ρ0 : PE) (hl : args.length = f.n) (hρ : PE.mk (args.map some ++ List.replicate (f.slots - f.n) none) none none = ρ0) (h : Runs Γ f.body ρ0 v) : run Γ f args = some v := run_eq hl (hρ ▸ h)
theorem exs_to {s : S} {z : Option Out} (h : ex Γ s ρ = some (ρ', none)) (k : exs Γ r ρ' = z) : exs Γ (.cons s r) ρ = z := show (ex Γ s ρ).bind (after fun ρ' => exs Γ r ρ') = _ from bs h k
theorem Runs.next {s : S} (h : ex Γ s ρ = some (ρ', none)) (k : Runs Γ r ρ' v) : Runs Γ (.cons s r) ρ v := let ⟨ρe, k⟩ := k; ⟨ρe, exs_to h k⟩
theorem Runs.stop {s : S} (h : ex Γ s ρ = some (ρ', some v)) : Runs Γ (.cons s r) ρ v := ⟨ρ', show (ex Γ s ρ).bind (after fun ρ' => exs Γ r ρ') = _ from bs h rfl⟩
theorem Runs.ret (h : ev Γ e ρ = some v) : Runs Γ (.cons (.ret e) r) ρ v := Runs.stop (s := .ret e) (show (ev Γ e ρ).bind _ = _ from bs h rfl)
theorem ex_assign (h : ev Γ e ρ = some v) (hf : ρ.free i = true) : ex Γ (.assign i e) ρ = some (ρ.set i v, none) := show (ev Γ e ρ).bind _ = _ from bs h (if_pos hf)
theorem Runs.assign (h : ev Γ e ρ = some w) (hf : ρ.free i = true) (k : Runs Γ r (ρ.set i w) v) : Runs Γ (.cons (.assign i e) r) ρ v := Runs.next (ex_assign h hf) k
theorem ex_for {tg : Tg} {src : Src} {items : List PV} {o : Out} (h : evS Γ src ρ = some items) (hg : forGo tg (fun ρ => exs Γ b ρ) items ρ = some o) : ex Γ (.for tg src b) ρ = some o := show (evS Γ src ρ).bind _ = _ from bs h hg
theorem ex_ife {c : E} {a : SL} {t : Bool} {o : Out} (h : trP (ev Γ c ρ) = some t) (k : exs Γ (cond t a b) ρ = some o) : ex Γ (.ife c a b) ρ = some o := show (trP (ev Γ c ρ)).bind _ = _ from bs h (by cases t <;> exact k)
theorem while_stop {c : PE → Option Bool} {b : PE → Option Out} {n : Nat} (h : c ρ = some false) : whileGo c b (n + 1) ρ = some (ρ, none) := show (c ρ).bind _ = _ from bs h rfl
theorem while_step {c : PE → Option Bool} {b : PE → Option Out} {n : Nat} (h : c ρ = some true) (k : b ρ = some (ρ', none)) : whileGo c b (n + 1) ρ = whileGo c b n ρ' := show (c ρ).bind _ = _ from bs h (show (b ρ).bind _ = _ from bs k rfl)
theorem for_step {tg : Tg} {b : PE → Option Out} {x : PV} {l : List PV} {ρ₁ : PE} (h : bindT tg x ρ = some ρ₁) (k : b ρ₁ = some (ρ', none)) : forGo tg b (x :: l) ρ = forGo tg b l ρ' := show (bindT tg x ρ).bind _ = _ from bs h (show (b ρ₁).bind _ = _ from bs k rfl)
theorem exs_next {s : S} (h : ex Γ s ρ = some (ρ', none)) : exs Γ (.cons s r) ρ = exs Γ r ρ' := exs_to h rfl
theorem exs_one {s : S} {o : PE} (h : ex Γ s ρ = some (o, none)) : exs Γ (.cons s .nil) ρ = some (o, none) := exs_to h rfl
/-! one step of a term -/
variable {e e' e₁ e₂ c : E} {v' v₁ v₂ : PV}
theorem e_bin {op : Operator} (h : ev Γ e ρ = some v) (h' : ev Γ e' ρ = some v') : ev Γ (.bin op e e') ρ = binP op v v' := show (ev Γ e ρ).bind _ = _ from bs h (bs h' rfl)
theorem e_cmp {op : CmpOp} {t : Bool} (h : ev Γ e ρ = some v) (h' : ev Γ e' ρ = some v') (k : cmpP op v v' = some t) : ev Γ (.cmp op e e') ρ = some (.bool t) := show (ev Γ e ρ).bind _ = _ from bs h (bs h' (bs k rfl))
theorem t_cmp {op : CmpOp} {t : Bool} (h : ev Γ e ρ = some v) (h' : ev Γ e' ρ = some v') (k : cmpP op v v' = some t) : trP (ev Γ (.cmp op e e') ρ) = some t := bs (e_cmp h h' k) rfl
theorem e_neg {x : Int} (h : ev Γ e ρ = some (.int x)) : ev Γ (.neg e) ρ = some (.int (-x)) := show (ev Γ e ρ).bind _ = _ from bs h rfl
theorem e_call1 {f : Nat} (h : ev Γ e ρ = some v) : ev Γ (.call f (.cons e .nil)) ρ = Γ f [v] := show (Option.bind (Option.bind (ev Γ e ρ) _) _) = _ from bs (bs h rfl) rfl
theorem e_call2 {f : Nat} (h : ev Γ e ρ = some v) (h' : ev Γ e' ρ = some v') : ev Γ (.call f (.cons e (.cons e' .nil))) ρ = Γ f [v, v'] := show (Option.bind (Option.bind (ev Γ e ρ) _) _) = _ from bs (bs h (show Option.bind (Option.bind (ev Γ e' ρ) _) _ = _ from bs (bs h' rfl) rfl)) rfl
theorem e_list1 (h : ev Γ e ρ = some v) : evL Γ (.cons e .nil) ρ = some [v] := show Option.bind (ev Γ e ρ) _ = _ from bs h rfl
theorem e_more {r : EL} {vs : List PV} (h : ev Γ e ρ = some v) (k : evL Γ r ρ = some vs) : evL Γ (.cons e r) ρ = some (v :: vs) := show Option.bind (ev Γ e ρ) _ = _ from bs h (bs k rfl)
theorem e_call {f : Nat} {r : EL} {vs : List PV} (h : evL Γ r ρ = some vs) : ev Γ (.call f r) ρ = Γ f vs := show Option.bind (evL Γ r ρ) _ = _ from bs h rfl
theorem e_tup {r : EL} {vs : List PV} (h : evL Γ r ρ = some vs) : ev Γ (.tup r) ρ = some (.tup vs) := show Option.bind (evL Γ r ρ) _ = _ from bs h rfl
theorem e_lst {r : EL} {vs : List PV} (h : evL Γ r ρ = some vs) : ev Γ (.list r) ρ = some (.lst vs) := show Option.bind (evL Γ r ρ) _ = _ from bs h rfl
theorem e_bi1 {b : BI} (h : ev Γ e ρ = some v) : ev Γ (.bi b (.cons e .nil)) ρ = biP b [v] := show Option.bind (evL Γ (.cons e .nil) ρ) _ = _ from bs (e_list1 h) rfl
theorem e_idx {x : Int} (h : ev Γ e ρ = some v) (h' : ev Γ e' ρ = some (.int x)) : ev Γ (.idx e e') ρ = idxP v x := show (ev Γ e ρ).bind _ = _ from bs h (bs h' rfl)
theorem e_ite {t : Bool} (h : trP (ev Γ c ρ) = some t) : ev Γ (.ite c e e') ρ = cond t (ev Γ e ρ) (ev Γ e' ρ) := show (trP (ev Γ c ρ)).bind _ = _ from bs h rfl
theorem e_comp {α : Type} {inj g : α → PV} {l : List α} {tg : Tg} {src : Src} (hi : evS Γ src ρ = some (l.map inj)) (h : ∀ x ∈ l, ∃ ρ', bindT tg (inj x) ρ.bare = some ρ' ∧ ev Γ e ρ' = some (g x)) : ev Γ (.comp e tg src) ρ = some (.lst (l.map g)) :=
  show (evS Γ src ρ).bind _ = _ from bs hi (bs (compGo_map fun x hx => let ⟨_, h1, h2⟩ := h x hx; bs h1 (bs h2 rfl)) rfl)
theorem e_compIf {α : Type} {inj g : α → PV} {p : α → Bool} {l : List α} {tg : Tg} {src : Src} (hi : evS Γ src ρ = some (l.map inj)) (h : ∀ x ∈ l, ∃ ρ', bindT tg (inj x) ρ.bare = some ρ' ∧ trP (ev Γ c ρ') = some (p x) ∧ (p x = true → ev Γ e ρ' = some (g x))) : ev Γ (.compIf e tg src c) ρ = some (.lst ((l.filter p).map g)) :=
  show (evS Γ src ρ).bind _ = _ from bs hi (bs (compGo_filter (p := p) (g := g) fun x hx => let ⟨_, h1, h2, h3⟩ := h x hx; bs h1 (bs h2 (by
    cases q : p x with
    | false => rfl
    | true => exact bs (h3 q) rfl))) rfl)
theorem e_items (h : ev Γ e ρ = some v) {l : List PV} (k : itemsP v = some l) : evS Γ (.exp e) ρ = some l := show (ev Γ e ρ).bind _ = _ from bs h k
theorem items_lst {xs : List PV} (h : xs.length < 4096) : itemsP (.lst xs) = some xs := if_pos (room_ok h)
theorem mul_ok {a b : Int} (ha : a.natAbs < 2 ^ 512) (hb : b.natAbs < 2 ^ 512) : binP .Mult (.int a) (.int b) = some (.int (a * b)) := if_pos (by rw [big_of ha, big_of hb]; rfl)
theorem mod_ok {a b : Int} (hb : b ≠ 0) : binP .Mod (.int a) (.int b) = some (.int (Int.fmod a b)) := if_pos hb
theorem div_ok {a b : Int} (hb : b ≠ 0) (h : b.natAbs < 2 ^ 512) : binP .FloorDiv (.int a) (.int b) = some (.int (Int.fdiv a b)) := (if_pos hb).trans (if_pos (big_of h))
theorem range_ev {n : Nat} (h : ev Γ e ρ = some (.int (n : Int))) (hk : n < 4096) : evS Γ (.range (.cons e .nil)) ρ = some ((rg n).map .int) := show (evL Γ (.cons e .nil) ρ).bind _ = _ from bs (e_list1 h) (bs (rangeOf_n hk) rfl)
end
section
variable {Γ : Nat → List PV → Option PV}
theorem fdm (a b : Int) : b * Int.fdiv a b + Int.fmod a b = a := by
  have := Int.fmod_def a b
  omega
theorem fmod_lt (a b : Int) (h : b ≠ 0) : (Int.fmod a b).natAbs < b.natAbs := by
  rcases Int.lt_or_gt_of_ne h with h | h
  · have h1 : Int.fmod a b = - Int.fmod (-a) (-b) := by rw [Int.neg_fmod_neg]; omega
    have h2 := Int.fmod_nonneg_of_pos (-a) (b := -b) (by omega)
    have h3 := Int.fmod_lt_of_pos (-a) (b := -b) (by omega)
    omega
  · have h1 := Int.fmod_nonneg_of_pos a h
    have h2 := Int.fmod_lt_of_pos a h
    omega
theorem euclid {L v3 : Option PV} : ∀ (fuel : Nat) (c n : Int), n.natAbs < fuel → ∃ g : Int, whileGo (fun ρ => trP (ev Γ (.cmp .NotEq (.var 2) (.lit (.int 0))) ρ)) (fun ρ => exs Γ (.cons (.assign2 1 2 (.tup (.cons (.var 2) (.cons (.bin .Mod (.var 1) (.var 2)) .nil)))) .nil) ρ) fuel ⟨[L, some (.int c), some (.int n), v3], none, none⟩
      = some (⟨[L, some (.int g), some (.int 0), v3], none, none⟩, none) ∧ g ∣ c ∧ g ∣ n ∧ ((c ≠ 0 ∨ n ≠ 0) → g ≠ 0)
  | 0, c, n, h => absurd h (Nat.not_lt_zero _)
  | fuel + 1, c, n, h => by
    by_cases hn : n = 0
    · subst hn
      refine ⟨c, ?_, Int.dvd_refl c, Int.dvd_zero c, by simp⟩
      exact while_stop rfl
    · obtain ⟨g, h1, h2, h3, h4⟩ := euclid (L := L) (v3 := v3) fuel n (Int.fmod c n) (by have := fmod_lt c n hn; omega)
      refine ⟨g, ?_, ?_, h2, fun _ => h4 (.inl hn)⟩
      · rw [← h1]
        exact while_step (congrArg some (bne_iff_ne.mpr hn)) (exs_one (show (ev Γ (.tup (.cons (.var 2) (.cons (.bin .Mod (.var 1) (.var 2)) .nil))) _).bind _ = _ from bs (e_tup (e_more rfl (e_list1 ((e_bin rfl rfl).trans (mod_ok hn))))) rfl))
      · have := fdm c n
        rw [← this]
        exact Int.dvd_add (Int.dvd_trans h2 (Int.dvd_mul_right _ _)) h3
theorem gcd_loop {L v3 : Option PV} : ∀ (l : List Int) (c : Int) (n0 : Option PV), (∀ x ∈ l, x.natAbs < 2 ^ 520) → ∃ (g : Int) (n1 : Option PV),
      forGo (.one (Str.ofString "n") 2) (fun ρ => exs Γ (.cons (.whil (2 ^ 520) (.cmp .NotEq (.var 2) (.lit (.int 0))) (.cons (.assign2 1 2 (.tup (.cons (.var 2) (.cons (.bin .Mod (.var 1) (.var 2)) .nil)))) .nil)) .nil) ρ) (l.map .int) ⟨[L, some (.int c), n0, v3], none, none⟩
      = some (⟨[L, some (.int g), n1, v3], none, none⟩, none) ∧ g ∣ c ∧ (∀ x ∈ l, g ∣ x) ∧ ((c ≠ 0 ∨ ∃ x ∈ l, x ≠ 0) → g ≠ 0)
  | [], c, n0, _ => ⟨c, n0, rfl, Int.dvd_refl c, fun _ h => (nomatch h), by simp⟩
  | x :: l, c, n0, hl => by
    obtain ⟨g1, a1, a2, a3, a4⟩ := euclid (Γ := Γ) (L := L) (v3 := v3) (2 ^ 520) c x (hl x (List.mem_cons_self ..))
    obtain ⟨g, n1, b1, b2, b3, b4⟩ := gcd_loop (L := L) (v3 := v3) l g1 (some (.int 0)) (fun y hy => hl y (List.mem_cons_of_mem _ hy))
    refine ⟨g, n1, ?_, Int.dvd_trans b2 a2, fun y hy => ?_, fun h => b4 ?_⟩
    · rw [← b1]
      exact for_step (ρ₁ := ⟨[L, some (.int c), some (.int x), v3], none, none⟩) rfl (exs_one a1)
    · rcases List.mem_cons.mp hy with rfl | hy
      · exact Int.dvd_trans b2 a3
      · exact b3 y hy
    · rcases h with h | ⟨y, hy, h⟩
      · exact .inl (a4 (.inl h))
      · rcases List.mem_cons.mp hy with rfl | hy
        · exact .inl (a4 (.inr h))
        · exact .inr ⟨y, hy, h⟩
/-- no entry of the row is more than 2^e -/
noncomputable def Bd (e : Nat) (l : List Int) : Prop := ∀ x ∈ l, x.natAbs ≤ 2 ^ e
theorem dvd_of_mul {g x : Int} (hg : g ≠ 0) (h : g ∣ x) : g * Int.fdiv x g = x := by
  have := Int.fdiv_mul_cancel h
  rw [Int.mul_comm]; exact this
theorem natAbs_fdiv_le {g x : Int} (hg : g ≠ 0) (h : g ∣ x) : (Int.fdiv x g).natAbs ≤ x.natAbs := by
  have h1 := dvd_of_mul hg h
  have h2 : g.natAbs * (Int.fdiv x g).natAbs = x.natAbs := by rw [← Int.natAbs_mul, h1]
  have h3 : 0 < g.natAbs := by omega
  rw [← h2]
  exact Nat.le_mul_of_pos_left _ h3
theorem pow512 {e : Nat} {x : Int} (he : e < 512) (h : x.natAbs ≤ 2 ^ e) : x.natAbs < 2 ^ 512 := Nat.lt_of_le_of_lt h (Nat.pow_lt_pow_right (by decide) he)
theorem g_lowest {n e : Nat} {row : List Int} (he : e < 512) (hb : Bd e row) (hl : row.length < 4096) (hne : ∃ x ∈ row, x ≠ 0) :
    ∃ (g : Int) (row' : List Int), g ≠ 0 ∧ GG (n + 1) 13 [iL row] = some (iL row') ∧ row = row'.map (g * ·) ∧ row'.length = row.length ∧ Bd e row' := by
  obtain ⟨g, n1, h1, _, h3, h4⟩ := gcd_loop (Γ := GG n) (L := some (iL row)) (v3 := none) row 0 none (fun x hx => Nat.lt_of_le_of_lt (hb x hx) (Nat.pow_lt_pow_right (by decide) (by omega)))
  have hg : g ≠ 0 := h4 (.inr hne)
  have hbig : big g = true := by
    obtain ⟨x, hx, hx0⟩ := hne
    refine big_of (Nat.lt_of_le_of_lt (m := x.natAbs) ?_ (pow512 he (hb x hx)))
    exact Nat.le_of_dvd (by omega) (Int.natAbs_dvd_natAbs.mpr (h3 x hx))
  refine ⟨g, row.map fun x => Int.fdiv x g, hg, ?_, ?_, by simp, ?_⟩
  · refine run_eq rfl ?_
    refine Runs.assign (i := 1) (w := .int 0) rfl rfl ?_
    have hi : itemsP (iL row) = some (row.map .int) := items_lst (by simpa using hl)
    refine Runs.next (ex_for (e_items rfl hi) h1) (Runs.ret ?_)
    refine (e_comp (g := fun x => .int (Int.fdiv x g)) (e_items rfl hi) fun x _ => ⟨_, rfl, (e_bin rfl rfl).trans (div_ok hg (of_decide_eq_true hbig))⟩).trans ?_
    rw [iL, List.map_map]
    rfl
  · rw [List.map_map]
    conv => lhs; rw [← List.map_id row]
    apply List.map_congr_left
    intro x hx
    exact (dvd_of_mul hg (h3 x hx)).symm
  · intro y hy
    obtain ⟨x, hx, rfl⟩ := List.mem_map.mp hy
    exact Nat.le_trans (natAbs_fdiv_le hg (h3 x hx)) (hb x hx)
/-- a row without a column -/
noncomputable def wo (row base : List Int) (c : Nat) : List Int := List.zipWith (fun a b => base.getD c 0 * a - row.getD c 0 * b) row base
theorem zipP_ints : ∀ (x y : List Int), zipP (x.map .int) (y.map .int) = (x.zip y).map fun p => .tup [.int p.1, .int p.2]
  | [], _ => by simp [zipP]
  | _ :: _, [] => by simp [zipP]
  | a :: x, b :: y => by simp [zipP, zipP_ints x y]
theorem zipWith_zip {f : Int → Int → Int} : ∀ (x y : List Int), List.zipWith f x y = (x.zip y).map fun p => f p.1 p.2
  | [], _ => by simp
  | _ :: _, [] => by simp
  | a :: x, b :: y => by simp [zipWith_zip x y]
theorem idx_getD {l : List Int} {c : Nat} (hc : c < l.length) (hl : l.length < 4096) : idxP (iL l) (c : Int) = some (.int (l.getD c 0)) := by
  refine idx_iL (by omega) ?_
  rw [List.getElem?_eq_getElem hc]
  simp [hc]
theorem bd_getD {e : Nat} {l : List Int} (h : Bd e l) (c : Nat) : (l.getD c 0).natAbs ≤ 2 ^ e := by
  by_cases hc : c < l.length
  · rw [List.getD_eq_getElem?_getD, List.getElem?_eq_getElem hc]
    exact h _ (List.getElem_mem hc)
  · rw [List.getD_eq_getElem?_getD, List.getElem?_eq_none (by omega)]
    exact Nat.zero_le _
theorem g_without {n e1 e2 c : Nat} {row base : List Int} (h1 : Bd e1 row) (h2 : Bd e2 base) (he1 : e1 < 512) (he2 : e2 < 512) (hl : row.length = base.length) (hc : c < row.length) (hr : row.length < 4096) :
    GG (n + 2) 14 [iL row, iL base, .int (c : Int)] = some (iL (wo row base c)) := by
  refine run_at ⟨[some (iL row), some (iL base), some (.int (c : Int)), none, none], none, none⟩ rfl rfl (Runs.ret ?_)
  have hz : evS (GG (n + 1)) (.zip (.var 0) (.var 1)) ⟨[some (iL row), some (iL base), some (.int (c : Int)), none, none], none, none⟩ = some ((row.zip base).map fun p => .tup [.int p.1, .int p.2]) := by
    show (if (room (row.map PV.int).length && room (base.map PV.int).length) = true then some (zipP (row.map .int) (base.map .int)) else none) = _
    rw [if_pos (by rw [List.length_map, List.length_map, ← hl, room_ok hr]; rfl), zipP_ints]
  refine (e_comp (g := fun p => .int (base.getD c 0 * p.1 - row.getD c 0 * p.2)) hz fun p hp => ?_).trans ?_
  · have hp' := List.of_mem_zip hp
    exact ⟨_, rfl, (e_call2 ((e_call2 ((e_idx rfl rfl).trans (idx_getD (hl ▸ hc) (hl ▸ hr))) rfl).trans (g_mul (big_of (pow512 he2 (bd_getD h2 c))) (big_of (pow512 he1 (h1 _ hp'.1)))))
      ((e_call2 ((e_idx rfl rfl).trans (idx_getD hc hr)) rfl).trans (g_mul (big_of (pow512 he1 (bd_getD h1 c))) (big_of (pow512 he2 (h2 _ hp'.2)))))).trans g_sub⟩
  · rw [iL, wo, zipWith_zip, List.map_map]
    rfl
end
end Mine
end

-- L2
section
open PySem
set_option maxRecDepth 100000
set_option autoImplicit false
set_option genSizeOf false
set_option genInjectivity false
set_option linter.unusedSimpArgs false
set_option linter.unusedVariables false
namespace Mine
noncomputable def dot : List Int → List Int → Int
  | a :: r, b :: s => a * b + dot r s
  | _, _ => 0
noncomputable def lin (p q : Int) (r b : List Int) : List Int := List.zipWith (fun x y => p * x - q * y) r b
theorem dot_lin (p q : Int) : ∀ (r b x : List Int), r.length = b.length → dot (lin p q r b) x = p * dot r x - q * dot b x
  | [], [], x, _ => by simp [lin, dot]
  | a :: r, c :: b, [], _ => by simp [lin, dot]
  | a :: r, c :: b, y :: x, h => by
    have ih := dot_lin p q r b x (by simpa using h)
    have e : lin p q (a :: r) (c :: b) = (p * a - q * c) :: lin p q r b := rfl
    rw [e]
    simp only [dot, ih]
    simp only [Int.sub_mul, Int.mul_add, Int.mul_assoc]
    omega
theorem getD_lin (p q : Int) : ∀ (r b : List Int) (j : Nat), r.length = b.length → (lin p q r b).getD j 0 = p * r.getD j 0 - q * b.getD j 0
  | [], [], j, _ => by simp [lin]
  | a :: r, c :: b, 0, _ => by simp [lin]
  | a :: r, c :: b, j + 1, h => by
    have ih := getD_lin p q r b j (by simpa using h)
    have e : lin p q (a :: r) (c :: b) = (p * a - q * c) :: lin p q r b := rfl
    rw [e]
    simpa using ih
theorem wo_lin (r b : List Int) (c : Nat) : wo r b c = lin (b.getD c 0) (r.getD c 0) r b := rfl
theorem wo_length {r b : List Int} {c : Nat} (h : r.length = b.length) : (wo r b c).length = r.length := by simp [wo, h]
theorem wo_bd {r b : List Int} {c e1 e2 : Nat} (h1 : Bd e1 r) (h2 : Bd e2 b) : Bd (e1 + e2 + 1) (wo r b c) := by
  intro x hx
  unfold wo at hx
  rw [zipWith_zip] at hx
  obtain ⟨p, hp, rfl⟩ := List.mem_map.mp hx
  have hp' := List.of_mem_zip hp
  have a1 := bd_getD h2 c
  have a2 := bd_getD h1 c
  have a3 := h1 _ hp'.1
  have a4 := h2 _ hp'.2
  have m1 : (b.getD c 0 * p.1).natAbs ≤ 2 ^ e2 * 2 ^ e1 := by rw [Int.natAbs_mul]; exact Nat.mul_le_mul a1 a3
  have m2 : (r.getD c 0 * p.2).natAbs ≤ 2 ^ e1 * 2 ^ e2 := by rw [Int.natAbs_mul]; exact Nat.mul_le_mul a2 a4
  have e : (2 : Nat) ^ (e1 + e2 + 1) = 2 ^ e1 * 2 ^ e2 + 2 ^ e1 * 2 ^ e2 := by rw [Nat.pow_succ, Nat.pow_add, Nat.mul_two]
  rw [e]
  exact Nat.le_trans (Int.natAbs_sub_le ..) (Nat.add_le_add (Nat.mul_comm _ _ ▸ m1) m2)
/-- pivots: a row, and its column -/
noncomputable abbrev Pv := List (List Int × Nat)
structure Piv (m e : Nat) (ps : Pv) : Prop where
  len : ∀ p ∈ ps, p.1.length = m
  col : ∀ p ∈ ps, p.2 < m
  bd : ∀ p ∈ ps, Bd e p.1
  diag : ∀ p ∈ ps, p.1.getD p.2 0 ≠ 0
  off : ps.Pairwise fun p q => p.1.getD q.2 0 = 0 ∧ q.1.getD p.2 0 = 0
theorem Piv.tail {m e : Nat} {p : List Int × Nat} {ps : Pv} (h : Piv m e (p :: ps)) : Piv m e ps :=
  ⟨fun q hq => h.len q (.tail _ hq), fun q hq => h.col q (.tail _ hq), fun q hq => h.bd q (.tail _ hq), fun q hq => h.diag q (.tail _ hq), (List.pairwise_cons.mp h.off).2⟩
noncomputable def red : List Int → Pv → List Int
  | r, [] => r
  | r, p :: ps => red (wo r p.1 p.2) ps
theorem red_facts {m e : Nat} : ∀ (ps : Pv) (r : List Int) (k : Nat), Piv m e ps → r.length = m → Bd k r →
    (red r ps).length = m ∧ Bd (k + ps.length * (e + 1)) (red r ps) ∧ (∀ c, r.getD c 0 = 0 → (∀ p ∈ ps, p.1.getD c 0 = 0) → (red r ps).getD c 0 = 0) ∧ (∀ p ∈ ps, (red r ps).getD p.2 0 = 0) ∧
      ∀ x, (∀ p ∈ ps, dot p.1 x = 0) → dot (red r ps) x = 0 → dot r x = 0
  | [], r, k, _, hl, hb => ⟨hl, by simpa [red] using hb, fun _ h _ => h, fun _ h => (nomatch h), fun _ _ h => h⟩
  | p :: ps, r, k, H, hl, hb => by
    have hlp := H.len p (.head _)
    have e0 : r.length = p.1.length := hl.trans hlp.symm
    obtain ⟨h1, h2, h3, h4, h5⟩ := red_facts ps (wo r p.1 p.2) (k + e + 1) H.tail ((wo_length e0).trans hl) (wo_bd hb (H.bd p (.head _)))
    have g : ∀ c, (wo r p.1 p.2).getD c 0 = p.1.getD p.2 0 * r.getD c 0 - r.getD p.2 0 * p.1.getD c 0 := fun c => by rw [wo_lin, getD_lin _ _ _ _ _ e0]
    have hoff := (List.pairwise_cons.mp H.off).1
    refine ⟨h1, ?_, fun c hc hq => h3 c ?_ fun q hq' => hq q (.tail _ hq'), fun q hq => ?_, fun x hx h => ?_⟩
    · have : k + e + 1 + ps.length * (e + 1) = k + (p :: ps).length * (e + 1) := by
        rw [List.length_cons, Nat.add_mul]; omega
      rw [← this]; exact h2
    · rw [g, hc, hq p (.head _)]; simp
    · rcases List.mem_cons.mp hq with rfl | hq
      · refine h3 _ ?_ fun q' hq' => (hoff q' hq').2
        rw [g, Int.mul_comm]; omega
      · exact h4 q hq
    · have := h5 x (fun q hq => hx q (.tail _ hq)) h
      rw [wo_lin, dot_lin _ _ _ _ _ e0, hx p (.head _)] at this
      have hd := H.diag p (.head _)
      rw [Int.mul_zero, Int.sub_zero] at this
      exact (Int.mul_eq_zero.mp this).resolve_left hd
theorem dot_zero : ∀ (r x : List Int), (∀ c, r.getD c 0 = 0) → dot r x = 0
  | [], x, _ => by simp [dot]
  | a :: r, [], _ => by simp [dot]
  | a :: r, b :: x, h => by
    have h0 : a = 0 := by simpa using h 0
    have := dot_zero r x fun c => by simpa using h (c + 1)
    simp [dot, h0, this]
/-- a new pivot -/
theorem Piv.add {m e k : Nat} {ps : Pv} {r : List Int} {c : Nat} (H : Piv m e ps) (hl : r.length = m) (hc : c < m) (hb : Bd k r) (hd : r.getD c 0 ≠ 0) (hz : ∀ p ∈ ps, r.getD p.2 0 = 0) :
    Piv m (e + k + 1) (ps.map (fun p => (wo p.1 r c, p.2)) ++ [(r, c)]) ∧ ∀ x, (∀ p ∈ ps.map (fun p => (wo p.1 r c, p.2)) ++ [(r, c)], dot p.1 x = 0) → (∀ p ∈ ps, dot p.1 x = 0) ∧ dot r x = 0 := by
  have hlen : ∀ p ∈ ps, p.1.length = r.length := fun p hp => (H.len p hp).trans hl.symm
  have g : ∀ p ∈ ps, ∀ j, (wo p.1 r c).getD j 0 = r.getD c 0 * p.1.getD j 0 - p.1.getD c 0 * r.getD j 0 := fun p hp j => by rw [wo_lin, getD_lin _ _ _ _ _ (hlen p hp)]
  refine ⟨⟨fun q hq => ?_, fun q hq => ?_, fun q hq => ?_, fun q hq => ?_, ?_⟩, fun x hx => ?_⟩
  · rcases List.mem_append.mp hq with hq | hq
    · obtain ⟨p, hp, rfl⟩ := List.mem_map.mp hq
      exact (wo_length (hlen p hp)).trans (H.len p hp)
    · rw [List.mem_singleton.mp hq]; exact hl
  · rcases List.mem_append.mp hq with hq | hq
    · obtain ⟨p, hp, rfl⟩ := List.mem_map.mp hq
      exact H.col p hp
    · rw [List.mem_singleton.mp hq]; exact hc
  · rcases List.mem_append.mp hq with hq | hq
    · obtain ⟨p, hp, rfl⟩ := List.mem_map.mp hq
      exact wo_bd (H.bd p hp) hb
    · rw [List.mem_singleton.mp hq]
      exact fun x hx => Nat.le_trans (hb x hx) (Nat.pow_le_pow_right (by decide) (by omega))
  · rcases List.mem_append.mp hq with hq | hq
    · obtain ⟨p, hp, rfl⟩ := List.mem_map.mp hq
      show (wo p.1 r c).getD p.2 0 ≠ 0
      rw [g p hp, hz p hp, Int.mul_zero, Int.sub_zero]
      exact Int.mul_ne_zero hd (H.diag p hp)
    · rw [List.mem_singleton.mp hq]; exact hd
  · rw [List.pairwise_append]
    refine ⟨?_, List.pairwise_singleton .., fun q hq q' hq' => ?_⟩
    · rw [List.pairwise_map]
      refine H.off.imp_of_mem fun {p q} hp hq h => ?_
      show (wo p.1 r c).getD q.2 0 = 0 ∧ (wo q.1 r c).getD p.2 0 = 0
      rw [g p hp, g q hq, hz p hp, hz q hq, h.1, h.2]
      simp
    · obtain ⟨p, hp, rfl⟩ := List.mem_map.mp hq
      rw [List.mem_singleton.mp hq']
      show (wo p.1 r c).getD c 0 = 0 ∧ r.getD p.2 0 = 0
      refine ⟨?_, hz p hp⟩
      rw [g p hp, Int.mul_comm]; omega
  · have hr : dot r x = 0 := hx (r, c) (List.mem_append_right _ (List.mem_singleton.mpr rfl))
    refine ⟨fun p hp => ?_, hr⟩
    have := hx (wo p.1 r c, p.2) (List.mem_append_left _ (List.mem_map.mpr ⟨p, hp, rfl⟩))
    rw [wo_lin, dot_lin _ _ _ _ _ (hlen p hp), hr, Int.mul_zero, Int.sub_zero] at this
    exact (Int.mul_eq_zero.mp this).resolve_left hd
end Mine
end

-- L3
section
open PySem
set_option maxRecDepth 100000
set_option autoImplicit false
set_option genSizeOf false
set_option genInjectivity false
set_option linter.unusedSimpArgs false
set_option linter.unusedVariables false
namespace Mine
noncomputable abbrev pvL (ps : Pv) : List PV := ps.map fun p => .tup [iL p.1, .int (p.2 : Int)]
noncomputable abbrev KF (R W P row b c cs l : Option PV) : PE := ⟨[R, W, P, row, b, c, cs, l, none, none, none, none, none, none, none], none, none⟩
noncomputable abbrev kIn : SL := .cons (.assign 3 (.call 14 (.cons (.var 3) (.cons (.var 4) (.cons (.var 5) .nil))))) .nil
noncomputable abbrev kCols : E := .compIf (.var 9) (.one (Str.ofString "c") 9) (.range (.cons (.var 1) .nil)) (.cmp .NotEq (.idx (.var 3) (.var 9)) (.lit (.int 0)))
noncomputable abbrev kNew : E := .bin .Add (.comp (.tup (.cons (.call 14 (.cons (.var 10) (.cons (.var 3) (.cons (.idx (.var 6) (.lit (.int 0))) .nil)))) (.cons (.var 11) .nil))) (.two (Str.ofString "base") 10 (Str.ofString "col") 11) (.exp (.var 2))) (.list (.cons (.tup (.cons (.var 3) (.cons (.idx (.var 6) (.lit (.int 0))) .nil))) .nil))
noncomputable abbrev kThen : SL := .cons (.assign 3 (.call 13 (.cons (.var 3) .nil))) (.cons (.assign 2 kNew) .nil)
noncomputable abbrev kBody : SL := .cons (.for (.two (Str.ofString "base") 4 (Str.ofString "col") 5) (.exp (.var 2)) kIn) (.cons (.assign 6 kCols) (.cons (.ife (.cmp .NotEq (.var 6) (.list .nil)) kThen .nil) .nil))
section
variable {R W P b c cs l : Option PV}
theorem red_loop {n m e : Nat} (hm : m < 4096) (he : e < 512) : ∀ (ps : Pv) (r : List Int) (k : Nat) (b c : Option PV), Piv m e ps → r.length = m → Bd k r → k + ps.length * (e + 1) < 512 →
    ∃ b' c', forGo (.two (Str.ofString "base") 4 (Str.ofString "col") 5) (fun ρ => exs (GG (n + 2)) kIn ρ) (pvL ps) (KF R W P (some (iL r)) b c cs l) = some (KF R W P (some (iL (red r ps))) b' c' cs l, none)
  | [], r, k, b, c, _, _, _, _ => ⟨b, c, rfl⟩
  | p :: ps, r, k, b, c, H, hl, hb, hk => by
    have hlp := H.len p (.head _)
    have hs : (p :: ps).length * (e + 1) = ps.length * (e + 1) + e + 1 := by rw [List.length_cons, Nat.add_mul]; omega
    obtain ⟨b', c', h⟩ := red_loop hm he ps (wo r p.1 p.2) (k + e + 1) (some (iL p.1)) (some (.int (p.2 : Int))) H.tail ((wo_length (hl.trans hlp.symm)).trans hl) (wo_bd hb (H.bd p (.head _))) (by omega)
    refine ⟨b', c', ?_⟩
    rw [red, ← h]
    refine for_step (ρ₁ := KF R W P (some (iL r)) (some (iL p.1)) (some (.int (p.2 : Int))) cs l) rfl (exs_one ?_)
    have hw := g_without (n := n) (c := p.2) hb (H.bd p (.head _)) (by omega) he (hl.trans hlp.symm) (by rw [hl]; exact H.col p (.head _)) (by omega)
    exact ex_assign ((e_call (e_more rfl (e_more rfl (e_list1 rfl)))).trans hw) rfl
theorem cols_ev {Γ : Nat → List PV → Option PV} {m : Nat} {r : List Int} (hm : m < 4096) (hl : r.length = m) : ev Γ kCols (KF R (some (.int (m : Int))) P (some (iL r)) b c cs l) = some (iL ((rg m).filter fun c => r.getD c.toNat 0 != 0)) := by
  refine e_compIf (p := fun c : Int => r.getD c.toNat 0 != 0) (range_ev rfl hm) fun x hx => ?_
  obtain ⟨h0, h1⟩ := mem_rg.mp hx
  have e : idxP (iL r) x = some (.int (r.getD x.toNat 0)) := by
    have := idx_getD (l := r) (c := x.toNat) (by omega) (by omega)
    rwa [Int.toNat_of_nonneg h0] at this
  exact ⟨_, rfl, t_cmp ((e_idx rfl rfl).trans e) rfl rfl, fun _ => rfl⟩
theorem ne_nil {xs : List Int} (h : xs.length < 4096) : cmpP .NotEq (iL xs) (.lst []) = some (!decide (xs = [])) := bs (intsOf_iL xs) (bs (x := ([] : List Int)) rfl (if_pos (by rw [room_ok h]; rfl)))
theorem row_step {n m e : Nat} {ps : Pv} {r : List Int} (hm : m < 4096) (H : Piv m e ps) (hl : r.length = m) (hb : Bd 1 r) (hps : ps.length < 4000) (he : e + 2 + ps.length * (e + 1) < 500) :
    ∃ ps' r3 b' c' cs', exs (GG (n + 2)) kBody (KF R (some (.int (m : Int))) (some (.lst (pvL ps))) (some (iL r)) b c cs none) = some (KF R (some (.int (m : Int))) (some (.lst (pvL ps'))) r3 b' c' cs' none, none) ∧
      ((Piv m e ps' ∧ ps'.length = ps.length) ∨ (Piv m (e + 2 + ps.length * (e + 1)) ps' ∧ ps'.length = ps.length + 1)) ∧ ∀ x, (∀ p ∈ ps', dot p.1 x = 0) → (∀ p ∈ ps, dot p.1 x = 0) ∧ dot r x = 0 := by
  obtain ⟨b', c', h1⟩ := red_loop (R := R) (W := some (.int (m : Int))) (P := some (.lst (pvL ps))) (cs := cs) (l := none) (n := n) hm (by omega) ps r 1 b c H hl hb (by omega)
  obtain ⟨f1, f2, f3, f4, f5⟩ := red_facts ps r 1 H hl hb
  generalize hr' : red r ps = r' at h1 f1 f2 f3 f4 f5
  have hc := cols_ev (Γ := GG (n + 2)) (R := R) (P := some (.lst (pvL ps))) (b := b') (c := c') (cs := cs) (l := none) hm f1
  have s1 : ex (GG (n + 2)) (.for (.two (Str.ofString "base") 4 (Str.ofString "col") 5) (.exp (.var 2)) kIn) (KF R (some (.int (m : Int))) (some (.lst (pvL ps))) (some (iL r)) b c cs none) = some (KF R (some (.int (m : Int))) (some (.lst (pvL ps))) (some (iL r')) b' c' cs none, none) :=
    ex_for (items := pvL ps) (e_items rfl (items_lst (by rw [pvL, List.length_map]; omega))) h1
  have s2 := ex_assign (i := 6) hc rfl
  cases hcs : (rg m).filter fun c => r'.getD c.toNat 0 != 0 with
  | nil =>
    rw [hcs] at s2
    have hz : ∀ c, r'.getD c 0 = 0 := fun c => by
      by_cases hcm : c < m
      · have := List.filter_eq_nil_iff.mp hcs (c : Int) (mem_rg.mpr ⟨by omega, by omega⟩)
        simpa using this
      · rw [List.getD_eq_getElem?_getD, List.getElem?_eq_none (by omega)]; rfl
    refine ⟨ps, some (iL r'), b', c', some (iL []), ?_, .inl ⟨H, rfl⟩, fun x hx => ⟨hx, f5 x hx (dot_zero _ _ hz)⟩⟩
    rw [exs_next s1, exs_next s2]
    exact exs_one (ex_ife (t := false) (by rfl) rfl)
  | cons c0 rest =>
    rw [hcs] at s2
    have hmem : c0 ∈ (rg m).filter fun c => r'.getD c.toNat 0 != 0 := by rw [hcs]; exact .head _
    obtain ⟨hin, hne⟩ := List.mem_filter.mp hmem
    obtain ⟨g0, g1⟩ := mem_rg.mp hin
    have hne' : r'.getD c0.toNat 0 ≠ 0 := by simpa using hne
    have hex : ∃ x ∈ r', x ≠ 0 := by
      refine ⟨r'.getD c0.toNat 0, ?_, hne'⟩
      rw [List.getD_eq_getElem?_getD, List.getElem?_eq_getElem (by omega)]
      exact List.getElem_mem _
    obtain ⟨g, r2, hg, k1, k2, k3, k4⟩ := g_lowest (n := n + 1) (by omega) f2 (by omega) hex
    have hget : ∀ j, r'.getD j 0 = g * r2.getD j 0 := fun j => by
      rw [k2, List.getD_eq_getElem?_getD, List.getD_eq_getElem?_getD, List.getElem?_map]
      cases r2[j]? <;> simp
    have z2 : ∀ j, r'.getD j 0 = 0 → r2.getD j 0 = 0 := fun j hj => by
      rw [hget] at hj
      exact (Int.mul_eq_zero.mp hj).resolve_left hg
    have hd2 : r2.getD c0.toNat 0 ≠ 0 := fun h => hne' (by rw [hget, h, Int.mul_zero])
    have hlen2 : r2.length = m := k3.trans f1
    have hcm : c0.toNat < m := by omega
    obtain ⟨A1, A2⟩ := H.add hlen2 hcm k4 hd2 fun p hp => z2 _ (f4 p hp)
    have hdot : ∀ x, dot r' x = g * dot r2 x := fun x => by
      rw [k2]
      clear k2 k1 k3 k4 hget z2 hd2 hlen2 A1 A2
      induction r2 generalizing x with
      | nil => simp [dot]
      | cons a r2 ih =>
        cases x with
        | nil => simp [dot]
        | cons y x => simp only [List.map_cons, dot, ih, Int.mul_add, Int.mul_assoc]
    refine ⟨ps.map (fun p => (wo p.1 r2 c0.toNat, p.2)) ++ [(r2, c0.toNat)], some (iL r2), b', c', some (iL (c0 :: rest)), ?_, .inr ⟨?_, by simp⟩, fun x hx => ?_⟩
    · rw [exs_next s1, exs_next s2]
      refine exs_one (ex_ife (t := true) ?_ ?_)
      · have hl2 : (c0 :: rest).length < 4096 := by
          rw [← hcs]
          refine Nat.lt_of_le_of_lt (List.length_filter_le ..) ?_
          simpa [rg] using hm
        exact t_cmp rfl rfl (ne_nil hl2)
      · have hcall : ev (GG (n + 2)) (.call 13 (.cons (.var 3) .nil)) (KF R (some (.int (m : Int))) (some (.lst (pvL ps))) (some (iL r')) b' c' (some (iL (c0 :: rest))) none) = some (iL r2) := (e_call1 rfl).trans k1
        refine exs_to (ρ' := KF R (some (.int (m : Int))) (some (.lst (pvL ps))) (some (iL r2)) b' c' (some (iL (c0 :: rest))) none) (ex_assign hcall rfl) (exs_one (ex_assign ?_ rfl))
        have ix : idxP (iL (c0 :: rest)) 0 = some (.int c0) := rfl
        have hi : itemsP (.lst (pvL ps)) = some (pvL ps) := items_lst (by rw [pvL, List.length_map]; omega)
        refine (e_bin (e_comp (g := fun p => .tup [iL (wo p.1 r2 c0.toNat), .int (p.2 : Int)]) (e_items rfl hi) fun p hp => ?_) (e_lst (e_list1 (e_tup (e_more rfl (e_list1 (v := .int (c0.toNat : Int)) ?_)))))).trans ?_
        · have hw := g_without (n := n) (c := c0.toNat) (H.bd p hp) k4 (by omega) (by omega) ((H.len p hp).trans hlen2.symm) (by rw [H.len p hp]; exact hcm) (by rw [H.len p hp]; exact hm)
          rw [Int.toNat_of_nonneg g0] at hw
          exact ⟨_, rfl, e_tup (e_more ((e_call (e_more rfl (e_more rfl (e_list1 ((e_idx rfl rfl).trans ix))))).trans hw) (e_list1 rfl))⟩
        · rw [Int.toNat_of_nonneg g0]
          exact (e_idx rfl rfl).trans ix
        · refine (if_pos (room_ok (by rw [List.length_map]; show ps.length + 1 < 4096; omega))).trans ?_
          rw [pvL, List.map_append, List.map_map]
          rfl
    · have : e + (1 + ps.length * (e + 1)) + 1 = e + 2 + ps.length * (e + 1) := by omega
      rw [← this]; exact A1
    · obtain ⟨q1, q2⟩ := A2 x hx
      exact ⟨q1, f5 x q1 (by rw [hdot, q2, Int.mul_zero])⟩
end
end Mine
end

-- L4
section
open PySem
set_option maxRecDepth 100000
set_option autoImplicit false
set_option genSizeOf false
set_option genInjectivity false
set_option linter.unusedSimpArgs false
set_option linter.unusedVariables false
namespace Mine
section
variable {Γ : Nat → List PV → Option PV} {ρ : PE} {i : Nat} {xs : List Int} {a b e : E}
theorem ex_sub {v : Int} {k : Nat} (hb : ev Γ b ρ = some (.int v)) (ho : ρ.own = some (i, xs)) (ha : ev Γ a ρ = some (.int (k : Int))) (hk : k < xs.length) (hr : xs.length < 4096) :
    ex Γ (.sub i a b) ρ = some ({ ρ with own := some (i, xs.set k v) }, none) :=
  show (ev Γ b ρ).bind _ = _ from bs hb (show ρ.own.bind _ = _ from bs ho ((if_pos rfl).trans (bs ha (show (if _ then _ else _) = _ from if_pos ⟨Int.natCast_nonneg k, hk, room_ok hr⟩))))
theorem get_at {xs : List Int} {k : Nat} (hk : k < xs.length) : xs[k]? = some (xs.getD k 0) := by rw [List.getD_eq_getElem?_getD, List.getElem?_eq_getElem hk]; rfl
theorem in4 {k n : Nat} (hk : k < n) (hr : n < 4096) : 0 ≤ (k : Int) ∧ (k : Int) < 4096 := by omega
theorem ev_oidx {k : Nat} (ho : ρ.own = some (i, xs)) (he : ev Γ e ρ = some (.int (k : Int))) (hk : k < xs.length) (hr : xs.length < 4096) : ev Γ (.oidx i e) ρ = some (.int (xs.getD k 0)) :=
  show ρ.own.bind _ = _ from bs ho ((if_pos rfl).trans (bs he ((if_pos (in4 hk hr)).trans (bs (get_at hk) rfl))))
theorem ev_idx {l : List Int} {k : Nat} (ha : ev Γ a ρ = some (iL l)) (hb : ev Γ b ρ = some (.int (k : Int))) (hk : k < l.length) (hr : l.length < 4096) : ev Γ (.idx a b) ρ = some (.int (l.getD k 0)) := (e_idx ha hb).trans (idx_getD hk hr)
theorem notin_ev {x : Int} {l : List Int} (hl : l.length < 4096) : cmpP .NotIn (.int x) (iL l) = some (!(l.any (· == x))) := bs (intsOf_iL l) (if_pos (room_ok hl))
theorem in_ev {x : Int} {l : List Int} (hl : l.length < 4096) : cmpP .In (.int x) (iL l) = some (l.any (· == x)) := bs (intsOf_iL l) (if_pos (room_ok hl))
theorem pvL_len {ps : Pv} : (pvL ps).length = ps.length := List.length_map _
end
noncomputable def ee : Nat → Nat
  | 0 => 1
  | k + 1 => ee k + 2 + k * (ee k + 1)
theorem rows_loop {n m : Nat} {R : Option PV} (hm : m < 4096) : ∀ (rows : List (List Int)) (ps : Pv) (b c cs r0 : Option PV), Piv m (ee ps.length) ps → (∀ r ∈ rows, r.length = m ∧ Bd 1 r) → ps.length + rows.length ≤ 3 →
    ∃ ps' r3 b' c' cs', forGo (.one (Str.ofString "row") 3) (fun ρ => exs (GG (n + 2)) kBody ρ) (rows.map iL) (KF R (some (.int (m : Int))) (some (.lst (pvL ps))) r0 b c cs none) = some (KF R (some (.int (m : Int))) (some (.lst (pvL ps'))) r3 b' c' cs' none, none) ∧
      Piv m (ee ps'.length) ps' ∧ ps'.length ≤ ps.length + rows.length ∧ ∀ x, (∀ p ∈ ps', dot p.1 x = 0) → (∀ p ∈ ps, dot p.1 x = 0) ∧ ∀ r ∈ rows, dot r x = 0
  | [], ps, b, c, cs, r0, H, _, _ => ⟨ps, r0, b, c, cs, rfl, H, Nat.le_add_right _ _, fun x hx => ⟨hx, fun _ h => (nomatch h)⟩⟩
  | r :: rows, ps, b, c, cs, r0, H, hr, hk => by
    rw [List.length_cons] at hk
    have he : ee ps.length + 2 + ps.length * (ee ps.length + 1) < 500 := by
      have : ps.length = 0 ∨ ps.length = 1 ∨ ps.length = 2 := by omega
      rcases this with h | h | h <;> rw [h] <;> decide
    obtain ⟨hl, hb⟩ := hr r (.head _)
    obtain ⟨ps1, r3, b1, c1, cs1, h1, h2, h3⟩ := row_step (n := n) (R := R) (b := b) (c := c) (cs := cs) hm H hl hb (by omega) he
    have H1 : Piv m (ee ps1.length) ps1 := by
      rcases h2 with ⟨h, e⟩ | ⟨h, e⟩
      · rw [e]; exact h
      · rw [e]; exact h
    have hl1 : ps1.length ≤ ps.length + 1 := by rcases h2 with ⟨_, e⟩ | ⟨_, e⟩ <;> omega
    obtain ⟨ps', r4, b', c', cs', q1, q2, q3, q4⟩ := rows_loop hm rows ps1 b1 c1 cs1 r3 H1 (fun r' h => hr r' (.tail _ h)) (by omega)
    refine ⟨ps', r4, b', c', cs', ?_, q2, by rw [List.length_cons]; omega, fun x hx => ?_⟩
    · rw [← q1]
      exact for_step (ρ₁ := KF R (some (.int (m : Int))) (some (.lst (pvL ps))) (some (iL r)) b c cs none) rfl h1
    · obtain ⟨w1, w2⟩ := q4 x hx
      obtain ⟨w3, w4⟩ := h3 x w1
      refine ⟨w3, fun r' h => ?_⟩
      rcases List.mem_cons.mp h with rfl | h
      · exact w4
      · exact w2 r' h
theorem nodup_le : ∀ (l k : List Nat), l.Nodup → (∀ x ∈ l, x ∈ k) → l.length ≤ k.length
  | [], _, _, _ => Nat.zero_le _
  | a :: l, k, hn, h => by
    obtain ⟨h1, h2⟩ := List.nodup_cons.mp hn
    have ha := h a (.head _)
    have := nodup_le l (k.erase a) h2 fun x hx => (List.mem_erase_of_ne (b := a) (a := x) (fun e => h1 (by rw [← e]; exact hx))).mpr (h x (.tail _ hx))
    rw [List.length_erase_of_mem ha] at this
    have := List.length_pos_of_mem ha
    rw [List.length_cons]; omega
noncomputable abbrev kLast : E := .idx (.compIf (.var 12) (.one (Str.ofString "c") 12) (.range (.cons (.var 1) .nil)) (.cmp .NotIn (.var 12) (.comp (.var 14) (.two (Str.ofString "base") 13 (Str.ofString "col") 14) (.exp (.var 2))))) (.lit (.int 0))
theorem last_ev {Γ : Nat → List PV → Option PV} {m : Nat} {ps : Pv} {R row b c cs : Option PV} (hm : m < 4096) (hp : ps.length < m) :
    ∃ last : Nat, last < m ∧ (∀ p ∈ ps, p.2 ≠ last) ∧ ev Γ kLast (KF R (some (.int (m : Int))) (some (.lst (pvL ps))) row b c cs none) = some (.int (last : Int)) := by
  have key : ev Γ (.compIf (.var 12) (.one (Str.ofString "c") 12) (.range (.cons (.var 1) .nil)) (.cmp .NotIn (.var 12) (.comp (.var 14) (.two (Str.ofString "base") 13 (Str.ofString "col") 14) (.exp (.var 2))))) (KF R (some (.int (m : Int))) (some (.lst (pvL ps))) row b c cs none)
      = some (iL ((rg m).filter fun x => !((ps.map fun p => (p.2 : Int)).any (· == x)))) :=
    e_compIf (p := fun x : Int => !((ps.map fun p => (p.2 : Int)).any (· == x))) (range_ev rfl hm) fun x hx => ⟨_, rfl, t_cmp rfl ((e_comp (g := fun p => .int (p.2 : Int)) (e_items rfl (items_lst (by rw [pvL_len]; omega))) fun p hp => ⟨_, rfl, rfl⟩).trans (congrArg (fun l => some (PV.lst l)) (List.map_map (f := fun p : List Int × Nat => (p.2 : Int)) (g := PV.int)).symm)) (notin_ev (by rw [List.length_map]; omega)), fun _ => rfl⟩
  cases hcs : (rg m).filter fun x => !((ps.map fun p => (p.2 : Int)).any (· == x)) with
  | nil =>
    exfalso
    have h1 := List.filter_eq_nil_iff.mp hcs
    have := nodup_le (List.range m) (ps.map (·.2)) List.nodup_range fun x hx => by
      have hx' := List.mem_range.mp hx
      have := h1 (x : Int) (mem_rg.mpr ⟨by omega, by omega⟩)
      simp only [Bool.not_eq_true', Bool.not_eq_false, List.any_eq_true] at this
      obtain ⟨y, hy, hyx⟩ := this
      obtain ⟨p, hp, rfl⟩ := List.mem_map.mp hy
      have : p.2 = x := by have := beq_iff_eq.mp hyx; omega
      exact List.mem_map.mpr ⟨p, hp, this⟩
    simp at this
    omega
  | cons c0 rest =>
    have hmem : c0 ∈ (rg m).filter fun x => !((ps.map fun p => (p.2 : Int)).any (· == x)) := by rw [hcs]; exact .head _
    obtain ⟨hin, hne⟩ := List.mem_filter.mp hmem
    obtain ⟨g0, g1⟩ := mem_rg.mp hin
    refine ⟨c0.toNat, by omega, fun p hp e => ?_, ?_⟩
    · simp only [Bool.not_eq_true', List.any_eq_false] at hne
      exact hne (p.2 : Int) (List.mem_map.mpr ⟨p, hp, rfl⟩) (by rw [beq_iff_eq]; omega)
    · rw [hcs] at key
      rw [Int.toNat_of_nonneg g0]
      exact (e_idx (x := 0) key rfl).trans rfl
noncomputable def prd : Pv → Int
  | [] => 1
  | p :: ps => p.1.getD p.2 0 * prd ps
noncomputable abbrev KG (R W P row b c cs l : Option PV) (xs : List Int) : PE := ⟨[R, W, P, row, b, c, cs, l, none, none, none, none, none, none, none], some (8, xs), none⟩
theorem set_getD {x : List Int} {k : Nat} {v : Int} (h : k < x.length) : (x.set k v).getD k 0 = v := by
  simp [h]
theorem prd_loop {Γ : Nat → List PV → Option PV} {m e last : Nat} {R W P row cs : Option PV} {x0 : List Int} (hm : m < 4096) (hx : x0.length = m) (hl : last < m) : ∀ (ps : Pv) (v : Int) (k : Nat) (b c : Option PV), Piv m e ps → v.natAbs ≤ 2 ^ k → k + ps.length * e < 512 → e < 512 →
    (v * prd ps).natAbs ≤ 2 ^ (k + ps.length * e) ∧
    ∃ b' c', forGo (.two (Str.ofString "base") 4 (Str.ofString "col") 5) (fun ρ => exs Γ (.cons (.sub 8 (.var 7) (.bin .Mult (.oidx 8 (.var 7)) (.idx (.var 4) (.var 5)))) .nil) ρ) (pvL ps) (KG R W P row b c cs (some (.int (last : Int))) (x0.set last v))
      = some (KG R W P row b' c' cs (some (.int (last : Int))) (x0.set last (v * prd ps)), none)
  | [], v, k, b, c, _, hv, _, _ => ⟨by simpa [prd] using hv, b, c, by simp [prd, forGo]⟩
  | p :: ps, v, k, b, c, H, hv, hk, he => by
    have hs : (p :: ps).length * e = ps.length * e + e := by rw [List.length_cons, Nat.add_mul]; omega
    rw [hs] at hk ⊢
    have hlp := H.len p (.head _)
    have hcp := H.col p (.head _)
    have hd := bd_getD (H.bd p (.head _)) p.2
    have hv2 : (v * p.1.getD p.2 0).natAbs ≤ 2 ^ (k + e) := by rw [Int.natAbs_mul, Nat.pow_add]; exact Nat.mul_le_mul hv hd
    obtain ⟨h1, b', c', h2⟩ := prd_loop (R := R) (W := W) (P := P) (row := row) (cs := cs) hm hx hl ps (v * p.1.getD p.2 0) (k + e) (some (iL p.1)) (some (.int (p.2 : Int))) H.tail hv2 (by omega) he
    have e1 : v * prd (p :: ps) = v * p.1.getD p.2 0 * prd ps := by rw [prd, Int.mul_assoc]
    have e2 : k + (ps.length * e + e) = k + e + ps.length * e := by omega
    rw [e1, e2]
    refine ⟨h1, b', c', ?_⟩
    rw [← h2]
    refine for_step (ρ₁ := KG R W P row (some (iL p.1)) (some (.int (p.2 : Int))) cs (some (.int (last : Int))) (x0.set last v)) rfl (exs_one ?_)
    have hl' : last < (x0.set last v).length := by rw [List.length_set]; omega
    have e0 : ev Γ (.oidx 8 (.var 7)) (KG R W P row (some (iL p.1)) (some (.int (p.2 : Int))) cs (some (.int (last : Int))) (x0.set last v)) = some (.int v) := by
      have := ev_oidx (Γ := Γ) (ρ := KG R W P row (some (iL p.1)) (some (.int (p.2 : Int))) cs (some (.int (last : Int))) (x0.set last v)) (e := .var 7) (k := last) rfl rfl hl' (by rw [List.length_set]; omega)
      rwa [set_getD (by omega)] at this
    have e3 : ev Γ (.idx (.var 4) (.var 5)) (KG R W P row (some (iL p.1)) (some (.int (p.2 : Int))) cs (some (.int (last : Int))) (x0.set last v)) = some (.int (p.1.getD p.2 0)) :=
      ev_idx (k := p.2) rfl rfl (by rw [hlp]; exact hcp) (by rw [hlp]; exact hm)
    have e4 := (e_bin (op := .Mult) e0 e3).trans (mul_ok (pow512 (by omega) hv) (pow512 he hd))
    have := ex_sub (i := 8) (a := .var 7) (k := last) e4 rfl rfl hl' (by rw [List.length_set]; omega)
    rwa [List.set_set] at this
end Mine
end

-- L5
section
open PySem
set_option maxRecDepth 100000
set_option autoImplicit false
set_option genSizeOf false
set_option genInjectivity false
set_option linter.unusedSimpArgs false
set_option linter.unusedVariables false
namespace Mine
theorem dot_set : ∀ (b x : List Int) (j : Nat) (v : Int), b.length = x.length → j < x.length → dot b (x.set j v) = dot b x + b.getD j 0 * (v - x.getD j 0)
  | [], [], j, v, _, h => by simp at h
  | a :: b, y :: x, 0, v, _, _ => by
    simp only [List.set_cons_zero, dot, List.getD_cons_zero]
    rw [Int.mul_sub]; omega
  | a :: b, y :: x, j + 1, v, h, hj => by
    simp only [List.set_cons_succ, dot, List.getD_cons_succ]
    rw [dot_set b x j v (by simpa using h) (by simpa using hj)]
    omega
theorem dot_rep : ∀ (b : List Int) (m : Nat), dot b (List.replicate m 0) = 0
  | [], m => by cases m <;> rfl
  | a :: b, 0 => rfl
  | a :: b, m + 1 => by simp [List.replicate_succ, dot, dot_rep b m]
/-- the entry at a pivot's column -/
noncomputable def qq (P : Int) (last : Nat) (p : List Int × Nat) : Int := Int.fdiv (-(p.1.getD last 0) * P) (p.1.getD p.2 0)
noncomputable def sumQ (P : Int) (last : Nat) (b : List Int) : Pv → Int
  | [] => 0
  | p :: ps => b.getD p.2 0 * qq P last p + sumQ P last b ps
theorem sumQ_zero {P : Int} {last : Nat} {b : List Int} : ∀ (ps : Pv), (∀ p ∈ ps, b.getD p.2 0 = 0) → sumQ P last b ps = 0
  | [], _ => rfl
  | p :: ps, h => by rw [sumQ, h p (.head _), sumQ_zero ps fun q hq => h q (.tail _ hq)]; simp
theorem sumQ_one {P : Int} {last m e : Nat} : ∀ (ps : Pv), Piv m e ps → ∀ p ∈ ps, sumQ P last p.1 ps = p.1.getD p.2 0 * qq P last p
  | a :: ps, H, p, hp => by
    obtain ⟨h1, h2⟩ := List.pairwise_cons.mp H.off
    rw [sumQ]
    rcases List.mem_cons.mp hp with rfl | hp
    · rw [sumQ_zero ps fun q hq => (h1 q hq).1]; omega
    · rw [(h1 p hp).2, sumQ_one ps H.tail p hp]; omega
theorem prd_dvd : ∀ (ps : Pv), ∀ p ∈ ps, p.1.getD p.2 0 ∣ prd ps
  | a :: ps, p, hp => by
    rw [prd]
    rcases List.mem_cons.mp hp with rfl | hp
    · exact Int.dvd_mul_right _ _
    · exact Int.dvd_trans (prd_dvd ps p hp) (Int.dvd_mul_left _ _)
theorem prd_ne : ∀ (ps : Pv), (∀ p ∈ ps, p.1.getD p.2 0 ≠ 0) → prd ps ≠ 0
  | [], _ => by decide
  | p :: ps, h => Int.mul_ne_zero (h p (.head _)) (prd_ne ps fun q hq => h q (.tail _ hq))
theorem bd_set {e : Nat} {x : List Int} {j : Nat} {v : Int} (h : Bd e x) (hv : v.natAbs ≤ 2 ^ e) : Bd e (x.set j v) := fun y hy => by
  rcases List.mem_or_eq_of_mem_set hy with hy | rfl
  · exact h y hy
  · exact hv
theorem set_ne {x : List Int} {j k : Nat} {v : Int} (h : j ≠ k) : (x.set j v).getD k 0 = x.getD k 0 := by
  rw [List.getD_eq_getElem?_getD, List.getD_eq_getElem?_getD, List.getElem?_set_ne h]
theorem col_loop {Γ : Nat → List PV → Option PV} {m e k last : Nat} {R W P0 row cs : Option PV} {P : Int} (hm : m < 4096) (hl : last < m) (hP : P.natAbs ≤ 2 ^ k) (hk : k + e < 512) : ∀ (ps : Pv) (x : List Int) (b c : Option PV), Piv m e ps → x.length = m → x.getD last 0 = P →
    (∀ p ∈ ps, p.2 ≠ last ∧ x.getD p.2 0 = 0 ∧ p.1.getD p.2 0 ∣ P) → Bd (k + e) x →
    ∃ x' b' c', forGo (.two (Str.ofString "base") 4 (Str.ofString "col") 5) (fun ρ => exs Γ (.cons (.sub 8 (.var 5) (.bin .FloorDiv (.bin .Mult (.neg (.idx (.var 4) (.var 7))) (.oidx 8 (.var 7))) (.idx (.var 4) (.var 5)))) .nil) ρ) (pvL ps) (KG R W P0 row b c cs (some (.int (last : Int))) x)
      = some (KG R W P0 row b' c' cs (some (.int (last : Int))) x', none) ∧ x'.length = m ∧ x'.getD last 0 = P ∧ Bd (k + e) x' ∧ ∀ v : List Int, v.length = m → dot v x' = dot v x + sumQ P last v ps
  | [], x, b, c, _, hx, hP', _, hb => ⟨x, b, c, rfl, hx, hP', hb, fun v _ => by simp [sumQ]⟩
  | p :: ps, x, b, c, H, hx, hP', hp, hb => by
    have hlp := H.len p (.head _)
    have hcp := H.col p (.head _)
    have hdp := H.diag p (.head _)
    obtain ⟨p1, p2, p3⟩ := hp p (.head _)
    have hoff := (List.pairwise_cons.mp H.off).1
    have hdv : p.1.getD p.2 0 ∣ -(p.1.getD last 0) * P := Int.dvd_trans p3 (Int.dvd_mul_left _ _)
    have hneg : (-(p.1.getD last 0)).natAbs ≤ 2 ^ e := by rw [Int.natAbs_neg]; exact bd_getD (H.bd p (.head _)) last
    have hnum : (-(p.1.getD last 0) * P).natAbs ≤ 2 ^ (k + e) := by
      rw [Int.natAbs_mul, Nat.pow_add, Nat.mul_comm]
      exact Nat.mul_le_mul hP hneg
    have hq : (qq P last p).natAbs ≤ 2 ^ (k + e) := Nat.le_trans (natAbs_fdiv_le hdp hdv) hnum
    obtain ⟨x', b', c', h1, h2, h3, h4, h5⟩ := col_loop (Γ := Γ) (R := R) (W := W) (P0 := P0) (row := row) (cs := cs) hm hl hP hk ps (x.set p.2 (qq P last p)) (some (iL p.1)) (some (.int (p.2 : Int))) H.tail (by rw [List.length_set]; exact hx) (by rw [set_ne p1]; exact hP')
      (fun q hq' => by
        obtain ⟨q1, q2, q3⟩ := hp q (.tail _ hq')
        refine ⟨q1, ?_, q3⟩
        rw [set_ne fun e => ?_]
        · exact q2
        · exact hdp (by rw [e]; exact (hoff q hq').1)) (bd_set hb hq)
    refine ⟨x', b', c', ?_, h2, h3, h4, fun v hv => ?_⟩
    · rw [← h1]
      refine for_step (ρ₁ := KG R W P0 row (some (iL p.1)) (some (.int (p.2 : Int))) cs (some (.int (last : Int))) x) rfl (exs_one ?_)
      have e0 : ev Γ (.oidx 8 (.var 7)) (KG R W P0 row (some (iL p.1)) (some (.int (p.2 : Int))) cs (some (.int (last : Int))) x) = some (.int P) := by
        have := ev_oidx (Γ := Γ) (ρ := KG R W P0 row (some (iL p.1)) (some (.int (p.2 : Int))) cs (some (.int (last : Int))) x) (e := .var 7) (k := last) rfl rfl (by omega) (by omega)
        rwa [hP'] at this
      have e3 : ev Γ (.idx (.var 4) (.var 5)) (KG R W P0 row (some (iL p.1)) (some (.int (p.2 : Int))) cs (some (.int (last : Int))) x) = some (.int (p.1.getD p.2 0)) :=
        ev_idx (k := p.2) rfl rfl (by rw [hlp]; exact hcp) (by rw [hlp]; exact hm)
      have e4 : ev Γ (.idx (.var 4) (.var 7)) (KG R W P0 row (some (iL p.1)) (some (.int (p.2 : Int))) cs (some (.int (last : Int))) x) = some (.int (p.1.getD last 0)) :=
        ev_idx (k := last) rfl rfl (by rw [hlp]; exact hl) (by rw [hlp]; exact hm)
      have e5 := (e_bin (op := .FloorDiv) ((e_bin (op := .Mult) (e_neg e4) e0).trans (mul_ok (pow512 (by omega) hneg) (pow512 (by omega) hP))) e3).trans (div_ok hdp (pow512 (by omega) (bd_getD (H.bd p (.head _)) p.2)))
      exact ex_sub (i := 8) (a := .var 5) (k := p.2) e5 rfl rfl (by omega) (by omega)
    · rw [h5 v hv, dot_set v x p.2 _ (by omega) (by omega), p2, sumQ, Int.sub_zero]
      omega
theorem dot_scale (g : Int) : ∀ (r y : List Int), dot r (y.map (g * ·)) = g * dot r y
  | [], y => by cases y <;> simp [dot]
  | a :: r, [] => by simp [dot]
  | a :: r, b :: y => by
    simp only [List.map_cons, dot, dot_scale g r y, Int.mul_add]
    rw [← Int.mul_assoc, Int.mul_comm a g, Int.mul_assoc]
theorem ee_le {k : Nat} (h : k ≤ 3) : ee k ≤ 31 := by
  have : k = 0 ∨ k = 1 ∨ k = 2 ∨ k = 3 := by omega
  rcases this with h | h | h | h <;> rw [h] <;> decide
theorem Piv.mono {m e e' : Nat} {ps : Pv} (H : Piv m e ps) (h : e ≤ e') : Piv m e' ps :=
  ⟨H.len, H.col, fun p hp x hx => Nat.le_trans (H.bd p hp x hx) (Nat.pow_le_pow_right (by decide) h), H.diag, H.off⟩
theorem g_kernel {n m : Nat} {rows : List (List Int)} (hm : m < 4096) (hr : ∀ r ∈ rows, r.length = m ∧ Bd 1 r) (h3 : rows.length ≤ 3) (hlt : rows.length < m) :
    ∃ y, GG (n + 3) 15 [.lst (rows.map iL), .int (m : Int)] = some (iL y) ∧ y.length = m ∧ Bd 124 y ∧ (∃ v ∈ y, v ≠ 0) ∧ ∀ r ∈ rows, dot r y = 0 := by
  obtain ⟨ps, r3, b1, c1, cs1, a1, a2, a3, a4⟩ := rows_loop (n := n) (R := some (.lst (rows.map iL))) hm rows [] none none none none ⟨fun _ h => (nomatch h), fun _ h => (nomatch h), fun _ h => (nomatch h), fun _ h => (nomatch h), .nil⟩ hr (by simpa using h3)
  simp only [List.length_nil, Nat.zero_add] at a3
  obtain ⟨last, l1, l2, l3⟩ := last_ev (Γ := GG (n + 2)) (R := some (.lst (rows.map iL))) (row := r3) (b := b1) (c := c1) (cs := cs1) hm (show ps.length < m by omega)
  have H : Piv m 31 ps := a2.mono (ee_le (by omega))
  obtain ⟨p1, b2, c2, p2⟩ := prd_loop (Γ := GG (n + 2)) (R := some (.lst (rows.map iL))) (W := some (.int (m : Int))) (P := some (.lst (pvL ps))) (row := r3) (cs := cs1) (x0 := List.replicate m 0) (e := 31) (last := last) hm (by simp) l1 ps 1 0 b1 c1 H (by decide) (by omega) (by decide)
  rw [Int.one_mul] at p1 p2
  have hP : (prd ps).natAbs ≤ 2 ^ 93 := Nat.le_trans p1 (Nat.pow_le_pow_right (by decide) (by omega))
  have hset : ((List.replicate m (0 : Int)).set last (prd ps)).getD last 0 = prd ps := set_getD (by simpa using l1)
  obtain ⟨x, b3, c3, q1, q2, q3, q4, q5⟩ := col_loop (Γ := GG (n + 2)) (R := some (.lst (rows.map iL))) (W := some (.int (m : Int))) (P0 := some (.lst (pvL ps))) (row := r3) (cs := cs1) (e := 31) (k := 93) hm l1 hP (by decide) ps ((List.replicate m 0).set last (prd ps)) b2 c2 H (by simp) hset
    (fun p hp => ⟨l2 p hp, by rw [set_ne (Ne.symm (l2 p hp))]; simp [List.getD_eq_getElem?_getD, List.getElem?_replicate]; split <;> rfl, prd_dvd ps p hp⟩)
    (bd_set (fun y hy => by rw [(List.mem_replicate.mp hy).2]; exact Nat.zero_le _) (Nat.le_trans hP (Nat.pow_le_pow_right (by decide) (by decide))))
  have hx0 : x.getD last 0 ≠ 0 := by rw [q3]; exact prd_ne ps H.diag
  have hex : ∃ v ∈ x, v ≠ 0 := by
    refine ⟨x.getD last 0, ?_, hx0⟩
    rw [List.getD_eq_getElem?_getD, List.getElem?_eq_getElem (by omega)]
    exact List.getElem_mem _
  obtain ⟨g, y, hg, y1, y2, y3, y4⟩ := g_lowest (n := n + 1) (by decide) q4 (by omega) hex
  refine ⟨y, ?_, y3.trans q2, y4, ?_, fun r hr' => ?_⟩
  · refine run_at ⟨[some (.lst (rows.map iL)), some (.int (m : Int)), none, none, none, none, none, none, none, none, none, none, none, none, none], none, none⟩ rfl rfl ?_
    refine Runs.next (ρ' := KF (some (.lst (rows.map iL))) (some (.int (m : Int))) (some (.lst (pvL []))) none none none none none) rfl ?_
    refine Runs.next (ex_for (items := rows.map iL) (e_items rfl (items_lst (by rw [List.length_map]; omega))) a1) ?_
    refine Runs.assign (i := 7) l3 rfl ?_
    have hv : ev (GG (n + 2)) (.repl 0 (.var 1)) ⟨[some (.lst (rows.map iL)), some (.int (m : Int)), some (.lst (pvL ps)), r3, b1, c1, cs1, some (.int (last : Int)), none, none, none, none, none, none, none], none, none⟩ = some (iL (List.replicate m 0)) := (if_pos (show 0 ≤ (m : Int) ∧ (m : Int) < 4096 by omega)).trans (by rw [iL, List.map_replicate]; rfl)
    have s1 : ex (GG (n + 2)) (.assignOwn 8 (.repl 0 (.var 1))) ⟨[some (.lst (rows.map iL)), some (.int (m : Int)), some (.lst (pvL ps)), r3, b1, c1, cs1, some (.int (last : Int)), none, none, none, none, none, none, none], none, none⟩ = some (KG (some (.lst (rows.map iL))) (some (.int (m : Int))) (some (.lst (pvL ps))) r3 b1 c1 cs1 (some (.int (last : Int))) (List.replicate m 0), none) :=
      show (ev _ _ _).bind _ = _ from bs hv (show (intsOf _).bind _ = _ from bs (intsOf_iL _) rfl)
    refine Runs.next s1 ?_
    refine Runs.next (ex_sub (i := 8) (a := .var 7) (b := .lit (.int 1)) (k := last) rfl rfl rfl (by simpa using l1) (by simpa using hm)) ?_
    refine Runs.next (ex_for (items := pvL ps) (e_items rfl (items_lst (by rw [pvL_len]; omega))) p2) ?_
    refine Runs.next (ex_for (items := pvL ps) (e_items rfl (items_lst (by rw [pvL_len]; omega))) q1) ?_
    refine Runs.next (ρ' := ⟨[some (.lst (rows.map iL)), some (.int (m : Int)), some (.lst (pvL ps)), r3, b3, c3, cs1, some (.int (last : Int)), some (iL x), none, none, none, none, none, none], none, none⟩) rfl ?_
    refine Runs.ret ?_
    exact y1
  · obtain ⟨v, hv, h0⟩ := hex
    rw [y2] at hv
    obtain ⟨u, hu, rfl⟩ := List.mem_map.mp hv
    exact ⟨u, hu, fun e => h0 (by rw [e]; exact Int.mul_zero g)⟩
  · have hz : ∀ p ∈ ps, dot p.1 x = 0 := fun p hp => by
      have hlp := H.len p hp
      rw [q5 p.1 hlp, sumQ_one ps H p hp, dot_set p.1 _ last _ (by simp [hlp]) (by simpa using l1), dot_rep]
      have hdv : p.1.getD p.2 0 ∣ -(p.1.getD last 0) * prd ps := Int.dvd_trans (prd_dvd ps p hp) (Int.dvd_mul_left _ _)
      have := dvd_of_mul (H.diag p hp) hdv
      unfold qq
      rw [this]
      have : (List.replicate m (0 : Int)).getD last 0 = 0 := by simp [List.getD_eq_getElem?_getD, List.getElem?_replicate]; split <;> rfl
      rw [this, Int.sub_zero, Int.neg_mul]
      omega
    have := (a4 x hz).2 r hr'
    rw [y2, dot_scale] at this
    exact (Int.mul_eq_zero.mp this).resolve_left hg
end Mine
end

-- L6
section
open PySem
set_option maxRecDepth 100000
set_option autoImplicit false
set_option genSizeOf false
set_option genInjectivity false
set_option linter.unusedSimpArgs false
set_option linter.unusedVariables false
namespace Mine
noncomputable def isI (o : Option PV) (i : Int) : Bool := o.elim false fun v => v.i?.elim false (· == i)
theorem isI_eq {o : Option PV} {i : Int} (h : isI o i = true) : o = some (.int i) := by
  cases o with
  | none => exact nomatch h
  | some v =>
    cases v with
    | int j => exact congrArg (fun j => some (PV.int j)) (beq_iff_eq.mp h)
    | _ => exact nomatch h
/-- law_part -/
noncomputable def part (v u : Nat) (t : Int) : Int := if v ^^^ u = 0 then 2 else if v ^^^ u = 1 ∨ v ^^^ u = 2 ∨ v ^^^ u = 4 then t * sg (v / (2 * (v ^^^ u))) else 0
theorem part_all (n : Nat) : ([1, -1] : List Int).all (fun t => (List.range 8).all fun v => (List.range 8).all fun u => isI (GG (n + 2) 12 [.int (v : Int), .int (u : Int), .int t]) (part v u t)) = true := by rfl
theorem g_part {n v u : Nat} {t : Int} (hv : v < 8) (hu : u < 8) (ht : t = 1 ∨ t = -1) : GG (n + 2) 12 [.int (v : Int), .int (u : Int), .int t] = some (.int (part v u t)) := by
  have h := part_all n
  have h1 := List.all_eq_true.mp h t (by rcases ht with rfl | rfl <;> simp)
  have h2 := List.all_eq_true.mp h1 v (List.mem_range.mpr hv)
  exact isI_eq (List.all_eq_true.mp h2 u (List.mem_range.mpr hu))
theorem any_filter {n : Nat} {S : Int → Bool} {x : Int} (hx : x ∈ rg n) : ((rg n).filter S).any (· == x) = S x := by
  cases h : S x with
  | true => rw [List.any_eq_true]; exact ⟨x, List.mem_filter.mpr ⟨hx, h⟩, by simp⟩
  | false =>
    rw [List.any_eq_false]
    intro y hy e
    have := (List.mem_filter.mp hy).2
    rw [beq_iff_eq.mp e, h] at this; cases this
theorem rg_length (n : Nat) : (rg n).length = n := by simp [rg]
theorem filter_small {n : Nat} (p : Int → Bool) (h : n < 4096) : ((rg n).filter p).length < 4096 := Nat.lt_of_le_of_lt (List.length_filter_le ..) (by rw [rg_length]; exact h)
/-- the places of a half that are out -/
noncomputable def AA (S : Int → Bool) (h : Int) : List Int := (rg 8).filter fun x => !S (8 * h + x)
theorem rg16 : rg 16 = rg 8 ++ (rg 8).map (8 + ·) := by rfl
theorem out_list {S : Int → Bool} {h : Int} (hh : h = 0 ∨ h = 1) : ((rg 16).filter fun x => (Int.fdiv x 8 == h) && !S x).map (fun x => Int.fmod x 8) = AA S h := by
  rw [rg16, List.filter_append, List.filter_map, List.map_append, List.map_map]
  have f1 : ∀ x ∈ rg 8, Int.fdiv x 8 = 0 ∧ Int.fmod x 8 = x ∧ Int.fdiv (8 + x) 8 = 1 ∧ Int.fmod (8 + x) 8 = x := by decide +kernel
  rcases hh with rfl | rfl
  · have z : (rg 8).filter ((fun x => (Int.fdiv x 8 == 0) && !S x) ∘ (8 + ·)) = [] := by
      rw [List.filter_eq_nil_iff]
      intro x hx
      simp [(f1 x hx).2.2.1]
    rw [z, List.map_nil, List.append_nil]
    have c : (rg 8).filter (fun x => (Int.fdiv x 8 == 0) && !S x) = AA S 0 := by
      unfold AA
      refine List.filter_congr fun x hx => ?_
      simp [(f1 x hx).1]
    rw [c]
    conv => rhs; rw [← List.map_id (AA S 0)]
    refine List.map_congr_left fun x hx => ?_
    exact (f1 x (List.mem_filter.mp hx).1).2.1
  · have z : (rg 8).filter (fun x => (Int.fdiv x 8 == 1) && !S x) = [] := by
      rw [List.filter_eq_nil_iff]
      intro x hx
      simp [(f1 x hx).1]
    rw [z, List.map_nil, List.nil_append]
    have c : (rg 8).filter ((fun x => (Int.fdiv x 8 == 1) && !S x) ∘ (8 + ·)) = AA S 1 := by
      unfold AA
      refine List.filter_congr fun x hx => ?_
      simp [(f1 x hx).2.2.1]
    rw [c]
    conv => rhs; rw [← List.map_id (AA S 1)]
    refine List.map_congr_left fun x hx => ?_
    exact (f1 x (List.mem_filter.mp hx).1).2.2.2
noncomputable abbrev vOut : E := .comp (.compIf (.bin .Mod (.var 12) (.lit (.int 8))) (.one (Str.ofString "v") 12) (.range (.cons (.lit (.int 16)) .nil)) (.boolop .And (.cons (.cmp .Eq (.bin .FloorDiv (.var 12) (.lit (.int 8))) (.var 11)) (.cons (.cmp .NotIn (.var 12) (.var 0)) .nil)))) (.one (Str.ofString "half") 11) (.range (.cons (.lit (.int 2)) .nil))
noncomputable abbrev VF (L s1 s2 s3 s4 s5 s6 s7 s8 s9 s10 : Option PV) (o : Option (Nat × List Int)) : PE := ⟨[L, s1, s2, s3, s4, s5, s6, s7, s8, s9, s10, none, none, none, none, none, none], o, none⟩
theorem eb_and {Γ : Nat → List PV → Option PV} {ρ : PE} {a b : E} {x y : Bool} (ha : ev Γ a ρ = some (.bool x)) (hb : ev Γ b ρ = some (.bool y)) : ev Γ (.boolop .And (.cons a (.cons b .nil))) ρ = some (.bool (x && y)) := show (ev Γ a ρ).bind _ = _ from bs ha (by
  cases x
  · rfl
  · exact hb)
theorem out_ev {Γ : Nat → List PV → Option PV} {S : Int → Bool} : ev Γ vOut (VF (some (iL ((rg 16).filter S))) none none none none none none none none none none none) = some (.lst [iL (AA S 0), iL (AA S 1)]) := by
  have inner : ∀ h : Int, h = 0 ∨ h = 1 → ev Γ (.compIf (.bin .Mod (.var 12) (.lit (.int 8))) (.one (Str.ofString "v") 12) (.range (.cons (.lit (.int 16)) .nil)) (.boolop .And (.cons (.cmp .Eq (.bin .FloorDiv (.var 12) (.lit (.int 8))) (.var 11)) (.cons (.cmp .NotIn (.var 12) (.var 0)) .nil))))
      ⟨[some (iL ((rg 16).filter S)), none, none, none, none, none, none, none, none, none, none, some (.int h), none, none, none, none, none], none, none⟩ = some (iL (AA S h)) := fun h hh => by
    refine (e_compIf (p := fun x : Int => (Int.fdiv x 8 == h) && !S x) (g := fun x => .int (Int.fmod x 8)) (range_ev (n := 16) rfl (by decide)) fun x hx => ?_).trans (congrArg (fun l => some (PV.lst l)) (by rw [← out_list (S := S) hh, List.map_map]; rfl))
    have hn := notin_ev (x := x) (filter_small S (n := 16) (by decide))
    rw [any_filter hx] at hn
    exact ⟨_, rfl, bs (eb_and (e_cmp ((e_bin rfl rfl).trans (div_ok (b := 8) (by decide) (by decide))) rfl rfl) (e_cmp rfl rfl hn)) rfl, fun _ => (e_bin rfl rfl).trans (mod_ok (b := 8) (by decide))⟩
  exact (e_comp (g := fun h => iL (AA S h)) (range_ev (n := 2) rfl (by decide)) fun h hh => ⟨_, rfl, inner h (by
    obtain ⟨a, b⟩ := mem_rg.mp hh
    omega)⟩).trans rfl
end Mine
end

-- L7
section
open PySem
set_option maxRecDepth 100000
set_option autoImplicit false
set_option genSizeOf false
set_option genInjectivity false
set_option linter.unusedSimpArgs false
set_option linter.unusedVariables false
namespace Mine
noncomputable def scat : List Int → List Int → List Int → List Int
  | x, u :: f, n :: y => scat (x.set u.toNat n) f y
  | x, _, _ => x
structure ScatOk (x f y x' : List Int) (e : Nat) : Prop where
  len : x'.length = 8
  other : ∀ j : Nat, (j : Int) ∉ f → x'.getD j 0 = x.getD j 0
  bd : Bd e x'
  ne : (∃ v ∈ y, v ≠ 0) → ∃ v ∈ x', v ≠ 0
  dots : ∀ c : List Int, c.length = 8 → dot c x' = dot c x + dot (f.map fun u => c.getD u.toNat 0) y
theorem scat_ok {e : Nat} : ∀ (f y x : List Int), f.length = y.length → f.Nodup → (∀ u ∈ f, 0 ≤ u ∧ u < 8) → x.length = 8 → Bd e x → Bd e y → (∀ u ∈ f, x.getD u.toNat 0 = 0) → ScatOk x f y (scat x f y) e
  | [], [], x, _, _, _, hx, hb, _, _ => ⟨hx, fun _ _ => rfl, hb, fun ⟨_, h, _⟩ => (nomatch h), fun c _ => by simp [scat, dot]⟩
  | u :: f, n :: y, x, hl, hn, hu, hx, hb, hy, hz => by
    obtain ⟨n1, n2⟩ := List.nodup_cons.mp hn
    obtain ⟨u0, u1⟩ := hu u (.head _)
    have hne : ∀ w ∈ f, u.toNat ≠ w.toNat := fun w hw e => by
      obtain ⟨w0, w1⟩ := hu w (.tail _ hw)
      have : u = w := by omega
      exact n1 (this ▸ hw)
    have H := scat_ok f y (x.set u.toNat n) (by simpa using hl) n2 (fun w hw => hu w (.tail _ hw)) (by rw [List.length_set]; exact hx) (bd_set hb (hy n (.head _))) (fun w hw => hy w (.tail _ hw))
      (fun w hw => by rw [set_ne (hne w hw)]; exact hz w (.tail _ hw))
    have hself : (scat x (u :: f) (n :: y)).getD u.toNat 0 = n := by
      rw [scat, H.other u.toNat (by rw [Int.toNat_of_nonneg u0]; exact n1), set_getD (by omega)]
    refine ⟨H.len, fun j hj => ?_, H.bd, fun ⟨v, hv, h0⟩ => ?_, fun c hc => ?_⟩
    · simp only [List.mem_cons, not_or] at hj
      rw [scat, H.other j hj.2, set_ne (fun e => hj.1 (by omega))]
    · rcases List.mem_cons.mp hv with rfl | hv
      · refine ⟨(scat x (u :: f) (v :: y)).getD u.toNat 0, ?_, by rw [hself]; exact h0⟩
        have hlen : (scat x (u :: f) (v :: y)).length = 8 := H.len
        rw [List.getD_eq_getElem?_getD, List.getElem?_eq_getElem (by omega)]
        exact List.getElem_mem _
      · exact H.ne ⟨v, hv, h0⟩
    · rw [scat, H.dots c hc, dot_set c x _ n (by omega) (by omega), hz u (.head _), Int.sub_zero]
      simp only [List.map_cons, dot]
      omega
/-- the three neighbours in a half, with signs -/
noncomputable def nbr (h : List Int) (v : Nat) : Int := sg (v / 2) * h.getD (v ^^^ 1) 0 + (sg (v / 4) * h.getD (v ^^^ 2) 0 + sg (v / 8) * h.getD (v ^^^ 4) 0)
noncomputable def rst (h : List Int) (t : Int) : List Int := (List.range 8).map fun v => 2 * h.getD v 0 + t * nbr h v
/-- the four neighbours, with signs -/
noncomputable def aro (x : List Int) (v : Nat) : Int := sg (v / 2) * x.getD (v ^^^ 1) 0 + (sg (v / 4) * x.getD (v ^^^ 2) 0 + (sg (v / 8) * x.getD (v ^^^ 4) 0 + sg (v / 16) * x.getD (v ^^^ 8) 0))
/-- rows of coefficients -/
noncomputable def vadd (a b : List Int) : List Int := List.zipWith (· + ·) a b
noncomputable def vsc (k : Int) (a : List Int) : List Int := a.map (k * ·)
theorem dot_vadd : ∀ (a b x : List Int), a.length = b.length → dot (vadd a b) x = dot a x + dot b x
  | [], [], x, _ => by cases x <;> rfl
  | a :: r, b :: s, [], _ => rfl
  | a :: r, b :: s, y :: x, h => by
    have ih := dot_vadd r s x (by simpa using h)
    show (a + b) * y + dot (vadd r s) x = _
    rw [ih, Int.add_mul]
    simp only [dot]; omega
theorem dot_vsc (k : Int) : ∀ (a x : List Int), dot (vsc k a) x = k * dot a x
  | [], x => by cases x <;> simp [vsc, dot]
  | a :: r, [] => by simp [vsc, dot]
  | a :: r, y :: x => by
    have ih := dot_vsc k r x
    show k * a * y + dot (vsc k r) x = _
    rw [ih, dot, Int.mul_add, Int.mul_assoc]
noncomputable def unit (n j : Nat) : List Int := (List.range n).map fun i => if i = j then 1 else 0
noncomputable def units (n : Nat) : List (List Int) := (List.range n).map (unit n)
/-- the rows at x -/
noncomputable def at_ (C : List (List Int)) (x : List Int) : List Int := C.map fun c => dot c x
theorem at_get {C : List (List Int)} {x : List Int} (j : Nat) : (at_ C x).getD j 0 = dot (C.getD j []) x := by
  rw [at_, List.getD_eq_getElem?_getD, List.getD_eq_getElem?_getD, List.getElem?_map]
  cases C[j]? <;> simp [dot]
theorem dot_zeros : ∀ (n : Nat) (f : Nat → Int) (x : List Int), (∀ i < n, f i = 0) → dot ((List.range n).map f) x = 0 := fun n f x h => by
  refine dot_zero _ _ fun c => ?_
  rw [List.getD_eq_getElem?_getD, List.getElem?_map]
  by_cases hc : c < n
  · rw [List.getElem?_range hc]; exact h c hc
  · rw [List.getElem?_eq_none (by rw [List.length_range]; omega)]; rfl
theorem dot_unit : ∀ (x : List Int) (j : Nat), dot (unit x.length j) x = x.getD j 0
  | [], j => rfl
  | y :: x, j => by
    have e : unit (y :: x).length j = (if 0 = j then 1 else 0) :: (List.range x.length).map fun i => if i + 1 = j then 1 else 0 := by
      rw [unit, List.length_cons, List.range_succ_eq_map, List.map_cons, List.map_map]; rfl
    rw [e, dot]
    cases j with
    | zero => rw [dot_zeros _ _ _ fun i _ => by simp]; simp
    | succ j =>
      have : (List.range x.length).map (fun i => if i + 1 = j + 1 then (1 : Int) else 0) = unit x.length j := by simp [unit]
      rw [this, dot_unit x j]; simp
theorem at_units (x : List Int) : at_ (units x.length) x = x := by
  apply List.ext_getElem
  · simp [at_, units]
  · intro i h1 h2
    have := dot_unit x i
    rw [List.getD_eq_getElem?_getD, List.getElem?_eq_getElem h2] at this
    simpa [at_, units] using this
/-- the same words for rows of coefficients -/
noncomputable def nbrC (C : List (List Int)) (v : Nat) : List Int := vadd (vsc (sg (v / 2)) (C.getD (v ^^^ 1) [])) (vadd (vsc (sg (v / 4)) (C.getD (v ^^^ 2) [])) (vsc (sg (v / 8)) (C.getD (v ^^^ 4) [])))
noncomputable def rstC (C : List (List Int)) (t : Int) : List (List Int) := (List.range 8).map fun v => vadd (vsc 2 (C.getD v [])) (vsc t (nbrC C v))
noncomputable def aroC (C : List (List Int)) (v : Nat) : List Int := vadd (vsc (sg (v / 2)) (C.getD (v ^^^ 1) [])) (vadd (vsc (sg (v / 4)) (C.getD (v ^^^ 2) [])) (vadd (vsc (sg (v / 8)) (C.getD (v ^^^ 4) [])) (vsc (sg (v / 16)) (C.getD (v ^^^ 8) []))))
theorem vsc_len (k : Int) (a : List Int) : (vsc k a).length = a.length := by simp [vsc]
theorem vadd_len (a b : List Int) (h : a.length = b.length) : (vadd a b).length = a.length := by simp [vadd, h]
theorem nbr_at {C : List (List Int)} {x : List Int} {v n : Nat} (h : ∀ j < 8, (C.getD j []).length = n) (hv : v < 8) : nbr (at_ C x) v = dot (nbrC C v) x ∧ (nbrC C v).length = n := by
  have l1 := h (v ^^^ 1) (Nat.xor_lt_two_pow (n := 3) hv (by decide))
  have l2 := h (v ^^^ 2) (Nat.xor_lt_two_pow (n := 3) hv (by decide))
  have l4 := h (v ^^^ 4) (Nat.xor_lt_two_pow (n := 3) hv (by decide))
  have q : (vadd (vsc (sg (v / 4)) (C.getD (v ^^^ 2) [])) (vsc (sg (v / 8)) (C.getD (v ^^^ 4) []))).length = n := by rw [vadd_len _ _ (by rw [vsc_len, vsc_len, l2, l4]), vsc_len, l2]
  refine ⟨?_, ?_⟩
  · rw [nbr, nbrC, dot_vadd _ _ _ (by rw [vsc_len, l1, q]), dot_vadd _ _ _ (by rw [vsc_len, vsc_len, l2, l4]), dot_vsc, dot_vsc, dot_vsc, at_get, at_get, at_get]
  · rw [nbrC, vadd_len _ _ (by rw [vsc_len, l1, q]), vsc_len, l1]
theorem rst_at {x : List Int} (hl : x.length = 8) (t : Int) : rst x t = at_ (rstC (units 8) t) x := by
  have hu : at_ (units 8) x = x := by rw [← hl]; exact at_units x
  have h8 : ∀ j < 8, ((units 8).getD j []).length = 8 := by decide
  rw [rst, rstC, at_, List.map_map]
  refine List.map_congr_left fun v hv => ?_
  have hv' := List.mem_range.mp hv
  obtain ⟨n1, n2⟩ := nbr_at (x := x) h8 hv'
  rw [hu] at n1
  show _ = dot (vadd (vsc 2 ((units 8).getD v [])) (vsc t (nbrC (units 8) v))) x
  rw [dot_vadd _ _ _ (by rw [vsc_len, vsc_len, h8 v hv', n2]), dot_vsc, dot_vsc, ← n1, ← at_get, hu]
theorem aro_at {C : List (List Int)} {x : List Int} {v n : Nat} (h : ∀ j < 16, (C.getD j []).length = n) (hv : v < 16) : aro (at_ C x) v = dot (aroC C v) x := by
  have l1 := h (v ^^^ 1) (Nat.xor_lt_two_pow (n := 4) hv (by decide))
  have l2 := h (v ^^^ 2) (Nat.xor_lt_two_pow (n := 4) hv (by decide))
  have l4 := h (v ^^^ 4) (Nat.xor_lt_two_pow (n := 4) hv (by decide))
  have l8 := h (v ^^^ 8) (Nat.xor_lt_two_pow (n := 4) hv (by decide))
  have q1 : (vadd (vsc (sg (v / 8)) (C.getD (v ^^^ 4) [])) (vsc (sg (v / 16)) (C.getD (v ^^^ 8) []))).length = n := by rw [vadd_len _ _ (by rw [vsc_len, vsc_len, l4, l8]), vsc_len, l4]
  have q2 : (vadd (vsc (sg (v / 4)) (C.getD (v ^^^ 2) [])) (vadd (vsc (sg (v / 8)) (C.getD (v ^^^ 4) [])) (vsc (sg (v / 16)) (C.getD (v ^^^ 8) [])))).length = n := by rw [vadd_len _ _ (by rw [vsc_len, l2, q1]), vsc_len, l2]
  rw [aro, aroC, dot_vadd _ _ _ (by rw [vsc_len, l1, q2]), dot_vadd _ _ _ (by rw [vsc_len, l2, q1]), dot_vadd _ _ _ (by rw [vsc_len, vsc_len, l4, l8]), dot_vsc, dot_vsc, dot_vsc, dot_vsc, at_get, at_get, at_get, at_get]
theorem lt16 {P : Nat → Prop} (h : ∀ v < 8, P v) (h' : ∀ v < 8, P (8 + v)) (v : Nat) (hv : v < 16) : P v := by
  by_cases h8 : v < 8
  · exact h v h8
  · have := h' (v - 8) (by omega)
    rwa [show 8 + (v - 8) = v from by omega] at this
theorem all8 {p : Nat → Bool} (h : (List.range 8).all p = true) {v : Nat} (hv : v < 8) : p v = true := List.all_eq_true.mp h v (List.mem_range.mpr hv)
theorem dot_part {h : List Int} {t : Int} (hl : h.length = 8) (ht : t = 1 ∨ t = -1) : ∀ v < 8, dot ((List.range 8).map fun u => part v u t) h = 2 * h.getD v 0 + t * nbr h v := fun v hv => by
  have e : ((List.range 8).map fun u => part v u t) = (rstC (units 8) t).getD v [] := by
    rcases ht with rfl | rfl
    · exact of_decide_eq_true (all8 (p := fun v => decide (((List.range 8).map fun u => part v u 1) = (rstC (units 8) 1).getD v [])) (by decide +kernel) hv)
    · exact of_decide_eq_true (all8 (p := fun v => decide (((List.range 8).map fun u => part v u (-1)) = (rstC (units 8) (-1)).getD v [])) (by decide +kernel) hv)
  rw [e, ← at_get, ← rst_at hl, rst, List.getD_eq_getElem?_getD, List.getElem?_map, List.getElem?_range hv]
  rfl
theorem eig_at {C : List (List Int)} {x : List Int} (h : ∀ j < 16, (C.getD j []).length = 8) (hc : ((List.range 16).all fun v => decide (aroC C v = vsc 2 (C.getD v []))) = true) : ∀ v < 16, aro (at_ C x) v = 2 * (at_ C x).getD v 0 := fun v hv => by
  rw [aro_at h hv, of_decide_eq_true (List.all_eq_true.mp hc v (List.mem_range.mpr hv)), dot_vsc, at_get]
theorem eigen0 {h : List Int} (hl : h.length = 8) : ∀ v < 16, aro (h ++ rst h (-1)) v = 2 * (h ++ rst h (-1)).getD v 0 := by
  have e : h ++ rst h (-1) = at_ (units 8 ++ rstC (units 8) (-1)) h := by
    rw [rst_at hl, at_, at_, List.map_append]
    congr 1
    have := at_units h
    rw [hl] at this
    exact this.symm
  rw [e]
  exact eig_at (by decide +kernel) (by decide +kernel)
theorem eigen1 {h : List Int} (hl : h.length = 8) : ∀ v < 16, aro (rst h 1 ++ h) v = 2 * (rst h 1 ++ h).getD v 0 := by
  have e : rst h 1 ++ h = at_ (rstC (units 8) 1 ++ units 8) h := by
    rw [rst_at hl, at_, at_, List.map_append]
    congr 1
    have := at_units h
    rw [hl] at this
    exact this.symm
  rw [e]
  exact eig_at (by decide +kernel) (by decide +kernel)
end Mine
end

-- L8
section
open PySem
set_option maxRecDepth 100000
set_option autoImplicit false
set_option genSizeOf false
set_option genInjectivity false
set_option linter.unusedSimpArgs false
set_option linter.unusedVariables false
namespace Mine
theorem len_ev {l : List Int} (h : l.length < 4096) : biP .len [iL l] = some (.int (l.length : Int)) := (if_pos (room_ok (List.length_map (as := l) PV.int ▸ h))).trans (by rw [List.length_map])
theorem sum_ev {l : List Int} (h : l.length < 4096) : biP .sum [iL l] = some (.int l.sum) := show (intsOf _).bind _ = _ from bs (intsOf_iL l) (if_pos (room_ok h))
noncomputable def fr8 (S : Int → Bool) (o : Int) : List Int := (rg 8).filter fun x => S (8 * o + x)
theorem filter_both (p : Int → Bool) : ∀ l : List Int, (l.filter p).length + (l.filter fun x => !p x).length = l.length
  | [] => rfl
  | x :: l => by
    have := filter_both p l
    cases h : p x <;> simp [h] <;> omega
theorem AA_sum (S : Int → Bool) (h : 9 ≤ ((rg 16).filter S).length) : (AA S 0).length + (AA S 1).length ≤ 7 := by
  have h1 := filter_both S (rg 16)
  rw [rg_length] at h1
  have h2 : ((rg 16).filter fun x => !S x).length = (AA S 0).length + (AA S 1).length := by
    rw [rg16, List.filter_append, List.filter_map, List.length_append, List.length_map]
    have e0 : (rg 8).filter (fun x => !S x) = AA S 0 := by
      unfold AA
      refine List.filter_congr fun x _ => ?_
      rw [Int.mul_zero, Int.zero_add]
    have e1 : (rg 8).filter ((fun x => !S x) ∘ (8 + ·)) = AA S 1 := by
      unfold AA
      refine List.filter_congr fun x _ => ?_
      rw [Int.mul_one]; rfl
    rw [e0, e1]
  omega
theorem fr_sum (S : Int → Bool) (o : Int) : (fr8 S o).length + (AA S o).length = 8 := by
  have := filter_both (fun x => S (8 * o + x)) (rg 8)
  rwa [rg_length] at this
theorem AA_le (S : Int → Bool) (o : Int) : (AA S o).length ≤ 8 := Nat.le_trans (List.length_filter_le ..) (by rw [rg_length]; decide)
theorem sg_abs (k : Nat) : (sg k).natAbs ≤ 1 := by
  by_cases h : k < 16
  · revert h
    revert k
    decide
  · have : sg k = 0 := by
      unfold sg
      rw [List.getD_eq_getElem?_getD, List.getElem?_eq_none (by simp; omega)]; rfl
    rw [this]; decide
theorem big_sg (k : Nat) : big (sg k) = true := big_of (Nat.lt_of_le_of_lt (sg_abs k) (by decide))
theorem xor_all (n : Nat) : ((List.range 16).all fun v => (List.range 16).all fun u => isI (GG (n + 1) 3 [.int (v : Int), .int (u : Int)]) ((v ^^^ u : Nat) : Int)) = true := by rfl
theorem g_xor' {n v u : Nat} (hv : v < 16) (hu : u < 16) : GG (n + 1) 3 [.int (v : Int), .int (u : Int)] = some (.int ((v ^^^ u : Nat) : Int)) := by
  have h1 := List.all_eq_true.mp (xor_all n) v (List.mem_range.mpr hv)
  exact isI_eq (List.all_eq_true.mp h1 u (List.mem_range.mpr hu))
theorem xor_lt {v u k : Nat} (hv : v < 2 ^ k) (hu : u < 2 ^ k) : v ^^^ u < 2 ^ k := Nat.xor_lt_two_pow hv hu
theorem fdiv_nat (v g : Nat) : Int.fdiv (v : Int) (g : Int) = ((v / g : Nat) : Int) := by
  rw [Int.fdiv_eq_ediv_of_nonneg _ (by omega)]; rfl
section
variable {n : Nat} {S : Int → Bool} {o : Int}
noncomputable abbrev vFree : E := .compIf (.var 13) (.one (Str.ofString "v") 13) (.range (.cons (.lit (.int 8)) .nil)) (.cmp .NotIn (.var 13) (.idx (.var 1) (.var 2)))
theorem out_idx {Γ : Nat → List PV → Option PV} {ρ : PE} {e : E} (h1 : ρ.get 1 = some (.lst [iL (AA S 0), iL (AA S 1)])) (he : ev Γ e ρ = some (.int o)) (ho : o = 0 ∨ o = 1) : ev Γ (.idx (.var 1) e) ρ = some (iL (AA S o)) := by
  refine (e_idx (e := .var 1) h1 he).trans ?_
  rcases ho with rfl | rfl <;> rfl
theorem free_ev {Γ : Nat → List PV → Option PV} {L s3 : Option PV} (ho : o = 0 ∨ o = 1) : ev Γ vFree (VF L (some (.lst [iL (AA S 0), iL (AA S 1)])) (some (.int o)) s3 none none none none none none none none) = some (iL (fr8 S o)) := by
  refine e_compIf (p := fun x => S (8 * o + x)) (range_ev (n := 8) rfl (by decide)) fun x hx => ⟨_, rfl, t_cmp rfl (out_idx rfl rfl ho) ?_, fun _ => rfl⟩
  have hn := notin_ev (x := x) (l := AA S o) (by have := AA_le S o; omega)
  rwa [show (AA S o).any (· == x) = !S (8 * o + x) from any_filter (S := fun x => !S (8 * o + x)) hx, Bool.not_not] at hn
noncomputable abbrev vRows : E := .comp (.comp (.call 12 (.cons (.var 14) (.cons (.var 15) (.cons (.var 3) .nil)))) (.one (Str.ofString "u") 15) (.exp (.var 4))) (.one (Str.ofString "v") 14) (.exp (.idx (.var 1) (.bin .Sub (.lit (.int 1)) (.var 2))))
noncomputable def rowOf (fr : List Int) (t : Int) (v : Int) : List Int := fr.map fun u => part v.toNat u.toNat t
theorem mem_fr8 {x : Int} (h : x ∈ fr8 S o) : 0 ≤ x ∧ x < 8 := by
  have := mem_rg.mp (List.mem_filter.mp h).1
  omega
theorem mem_AA {x : Int} (h : x ∈ AA S o) : (0 ≤ x ∧ x < 8) ∧ S (8 * o + x) = false := by
  have h1 := mem_rg.mp (List.mem_filter.mp h).1
  have h2 := (List.mem_filter.mp h).2
  exact ⟨by omega, by simpa using h2⟩
theorem rows_ev {L : Option PV} {t : Int} (ho : o = 0 ∨ o = 1) (ht : t = 1 ∨ t = -1) :
    ev (GG (n + 2)) vRows (VF L (some (.lst [iL (AA S 0), iL (AA S 1)])) (some (.int o)) (some (.int t)) (some (iL (fr8 S o))) none none none none none none none) = some (.lst ((AA S (1 - o)).map fun v => iL (rowOf (fr8 S o) t v))) := by
  refine e_comp (g := fun v => iL (rowOf (fr8 S o) t v)) (e_items (out_idx (o := 1 - o) rfl rfl (by omega)) (items_lst (by have := AA_le S (1 - o); rw [List.length_map]; omega))) fun v hv => ⟨_, rfl, ?_⟩
  have hv' := (mem_AA hv).1
  refine (e_comp (g := fun u => .int (part v.toNat u.toNat t)) (e_items rfl (items_lst (xs := (fr8 S o).map .int) (by rw [List.length_map]; have := fr_sum S o; omega))) fun u hu => ⟨_, rfl, ?_⟩).trans (by rw [rowOf, iL, List.map_map]; rfl)
  have hu' := mem_fr8 hu
  have hp := g_part (n := n) (v := v.toNat) (u := u.toNat) (t := t) (by omega) (by omega) ht
  rw [Int.toNat_of_nonneg hv'.1, Int.toNat_of_nonneg hu'.1] at hp
  exact (e_call (e_more rfl (e_more rfl (e_list1 rfl)))).trans hp
theorem scat_loop {Γ : Nat → List PV → Option PV} {L s1 s2 s3 s4 s5 : Option PV} : ∀ (f y x : List Int) (s7 s8 : Option PV), x.length = 8 → (∀ u ∈ f, 0 ≤ u ∧ u < 8) →
    ∃ s7' s8', forGo (.two (Str.ofString "v") 7 (Str.ofString "n") 8) (fun ρ => exs Γ (.cons (.sub 6 (.var 7) (.var 8)) .nil) ρ) (zipP (f.map .int) (y.map .int)) (VF L s1 s2 s3 s4 s5 none s7 s8 none none (some (6, x))) = some (VF L s1 s2 s3 s4 s5 none s7' s8' none none (some (6, scat x f y)), none)
  | [], y, x, s7, s8, _, _ => ⟨s7, s8, by cases y <;> rfl⟩
  | u :: f, [], x, s7, s8, _, _ => ⟨s7, s8, rfl⟩
  | u :: f, v :: y, x, s7, s8, hx, hu => by
    obtain ⟨u0, u1⟩ := hu u (.head _)
    obtain ⟨a, b, h⟩ := scat_loop (Γ := Γ) (L := L) (s1 := s1) (s2 := s2) (s3 := s3) (s4 := s4) (s5 := s5) f y (x.set u.toNat v) (some (.int u)) (some (.int v)) (by rw [List.length_set]; exact hx) fun w hw => hu w (.tail _ hw)
    refine ⟨a, b, ?_⟩
    rw [scat, ← h]
    refine for_step (ρ₁ := VF L s1 s2 s3 s4 s5 none (some (.int u)) (some (.int v)) none none (some (6, x))) rfl (exs_one ?_)
    exact ex_sub (v := v) rfl rfl (show some (PV.int u) = some (.int (u.toNat : Int)) by rw [Int.toNat_of_nonneg u0]) (by omega) (by omega)
end
end Mine
end

-- L9
section
open PySem
set_option maxRecDepth 100000
set_option autoImplicit false
set_option genSizeOf false
set_option genInjectivity false
set_option linter.unusedSimpArgs false
set_option linter.unusedVariables false
namespace Mine
theorem ex_append {Γ : Nat → List PV → Option PV} {ρ : PE} {i : Nat} {xs : List Int} {e : E} {v : Int} (hb : ev Γ e ρ = some (.int v)) (ho : ρ.own = some (i, xs)) (hr : xs.length < 4096) :
    ex Γ (.append i e) ρ = some ({ ρ with own := some (i, xs ++ [v]) }, none) := show (ev Γ e ρ).bind _ = _ from bs hb (show ρ.own.bind _ = _ from bs ho (if_pos ⟨rfl, room_ok hr⟩))
theorem bd_sg {e k : Nat} {x : Int} (h : x.natAbs ≤ 2 ^ e) : (sg k * x).natAbs ≤ 2 ^ e := by
  rw [Int.natAbs_mul]
  exact Nat.le_trans (Nat.mul_le_mul (sg_abs k) h) (by rw [Nat.one_mul]; exact Nat.le_refl _)
noncomputable abbrev vAround : E := .comp (.bin .Mult (.call 8 (.cons (.bin .FloorDiv (.var 7) (.bin .Mult (.lit (.int 2)) (.var 16))) .nil)) (.idx (.var 6) (.call 3 (.cons (.var 7) (.cons (.var 16) .nil))))) (.one (Str.ofString "gap") 16) (.exp (.tup (.cons (.lit (.int 1)) (.cons (.lit (.int 2)) (.cons (.lit (.int 4)) .nil)))))
noncomputable abbrev vItem : E := .bin .Add (.bin .Mult (.lit (.int 2)) (.idx (.var 6) (.var 7))) (.bin .Mult (.var 3) (.bi .sum (.cons (.var 10) .nil)))
section
variable {n v : Nat} {L s1 s2 s3 s4 s5 s8 s10 : Option PV} {h : List Int} {o : Option (Nat × List Int)}
theorem lt512 {v : Nat} (h : v < 4096) : ((v : Int)).natAbs < 2 ^ 512 := Nat.lt_of_lt_of_le h (Nat.le_of_ble_eq_true rfl)
theorem two_mul {k : Nat} (h : k < 4096) : binP .Mult (.int 2) (.int (k : Int)) = some (.int ((2 * k : Nat) : Int)) := (mul_ok (by decide) (lt512 h)).trans rfl
theorem div_nat {v g : Nat} (hg : 0 < g) (h : g < 4096) : binP .FloorDiv (.int (v : Int)) (.int (g : Int)) = some (.int ((v / g : Nat) : Int)) := (div_ok (Int.natCast_ne_zero.mpr (Nat.ne_of_gt hg)) (lt512 h)).trans (by rw [fdiv_nat])
theorem sg_512 (k : Nat) : (sg k).natAbs < 2 ^ 512 := Nat.lt_of_le_of_lt (sg_abs k) (by decide)
theorem around_ev (hl : h.length = 8) (hb : Bd 124 h) (hv : v < 8) (acc : List Int) : ev (GG (n + 1)) vAround (VF L s1 s2 s3 s4 s5 (some (iL h)) (some (.int (v : Int))) s8 none s10 (some (9, acc))) = some (iL [sg (v / 2) * h.getD (v ^^^ 1) 0, sg (v / 4) * h.getD (v ^^^ 2) 0, sg (v / 8) * h.getD (v ^^^ 4) 0]) := by
  refine e_comp (l := [1, 2, 4]) (inj := fun g : Nat => .int (g : Int)) (g := fun g : Nat => .int (sg (v / (2 * g)) * h.getD (v ^^^ g) 0)) rfl fun g hg => ⟨_, rfl, ?_⟩
  have hg' : 0 < g ∧ g < 8 := (by decide : ∀ g ∈ [1, 2, 4], 0 < g ∧ g < 8) g hg
  have hx : v ^^^ g < 8 := xor_lt (k := 3) hv hg'.2
  exact (e_bin ((e_call1 ((e_bin rfl ((e_bin rfl rfl).trans (two_mul (by omega)))).trans (div_nat (by omega) (by omega)))).trans (g_sign (Nat.lt_of_le_of_lt (Nat.div_le_self ..) (by omega))))
    ((e_idx rfl ((e_call2 rfl rfl).trans (g_xor' (by omega) (by omega)))).trans (idx_getD (by omega) (by omega)))).trans (mul_ok (sg_512 _) (pow512 (e := 124) (by decide) (bd_getD hb _)))
theorem nbr_bd (hb : Bd 124 h) : (nbr h v).natAbs ≤ 2 ^ 126 := by
  refine Nat.le_trans (Int.natAbs_add_le ..) (Nat.le_trans (Nat.add_le_add (bd_sg (bd_getD hb _)) (Nat.le_trans (Int.natAbs_add_le ..) (Nat.add_le_add (bd_sg (bd_getD hb _)) (bd_sg (bd_getD hb _))))) (by decide))
theorem pm_512 {t : Int} (ht : t = 1 ∨ t = -1) : t.natAbs < 2 ^ 512 := by rcases ht with rfl | rfl <;> decide
theorem rest_loop {t : Int} (ht : t = 1 ∨ t = -1) (hl : h.length = 8) (hb : Bd 124 h) : ∀ (vs : List Nat) (acc : List Int) (s7 s10 : Option PV), (∀ v ∈ vs, v < 8) → acc.length + vs.length < 4096 →
    ∃ s7' s10', forGo (.one (Str.ofString "v") 7) (fun ρ => exs (GG (n + 1)) (.cons (.assign 10 vAround) (.cons (.append 9 vItem) .nil)) ρ) (vs.map fun (v : Nat) => PV.int (v : Int)) (VF L s1 s2 (some (.int t)) s4 s5 (some (iL h)) s7 s8 none s10 (some (9, acc)))
      = some (VF L s1 s2 (some (.int t)) s4 s5 (some (iL h)) s7' s8 none s10' (some (9, acc ++ vs.map fun v => 2 * h.getD v 0 + t * nbr h v)), none)
  | [], acc, s7, s10, _, _ => ⟨s7, s10, by simp [forGo]⟩
  | v :: vs, acc, s7, s10, hv, hlen => by
    have hv8 := hv v (.head _)
    rw [List.length_cons] at hlen
    have a1 := (around_ev (n := n) (L := L) (s1 := s1) (s2 := s2) (s3 := some (.int t)) (s4 := s4) (s5 := s5) (s8 := s8) (s10 := s10) hl hb hv8) acc
    obtain ⟨s7', s10', k⟩ := rest_loop ht hl hb vs (acc ++ [2 * h.getD v 0 + t * nbr h v]) (some (.int (v : Int))) (some (iL [sg (v / 2) * h.getD (v ^^^ 1) 0, sg (v / 4) * h.getD (v ^^^ 2) 0, sg (v / 8) * h.getD (v ^^^ 4) 0])) (fun w hw => hv w (.tail _ hw)) (by rw [List.length_append, List.length_singleton]; omega)
    refine ⟨s7', s10', ?_⟩
    have e : acc ++ (v :: vs).map (fun v => 2 * h.getD v 0 + t * nbr h v) = acc ++ [2 * h.getD v 0 + t * nbr h v] ++ vs.map (fun v => 2 * h.getD v 0 + t * nbr h v) := by simp
    rw [e, ← k]
    refine for_step (ρ₁ := VF L s1 s2 (some (.int t)) s4 s5 (some (iL h)) (some (.int (v : Int))) s8 none s10 (some (9, acc))) rfl ?_
    rw [exs_next (ex_assign (i := 10) a1 rfl)]
    refine exs_one (ex_append (v := 2 * h.getD v 0 + t * nbr h v) ?_ rfl (by omega))
    have hsum : biP .sum [iL [sg (v / 2) * h.getD (v ^^^ 1) 0, sg (v / 4) * h.getD (v ^^^ 2) 0, sg (v / 8) * h.getD (v ^^^ 4) 0]] = some (.int (nbr h v)) := by
      rw [sum_ev (by simp)]
      simp [nbr]
    exact (e_bin ((e_bin rfl ((e_idx rfl rfl).trans (idx_getD (by omega) (by omega)))).trans (mul_ok (a := 2) (by decide) (pow512 (e := 124) (by decide) (bd_getD hb v))))
      ((e_bin rfl ((e_bi1 rfl).trans hsum)).trans (mul_ok (pm_512 ht) (pow512 (by decide) (nbr_bd hb))))).trans rfl
end
end Mine
end

-- L10
section
open PySem
set_option maxRecDepth 100000
set_option autoImplicit false
set_option genSizeOf false
set_option genInjectivity false
set_option linter.unusedSimpArgs false
set_option linter.unusedVariables false
namespace Mine
theorem rep_getD (m j : Nat) : (List.replicate m (0 : Int)).getD j 0 = 0 := by
  rw [List.getD_eq_getElem?_getD, List.getElem?_replicate]
  split <;> rfl
theorem rst_len (h : List Int) (t : Int) : (rst h t).length = 8 := by simp [rst]
theorem rst_get {h : List Int} {t : Int} {v : Nat} (hv : v < 8) : (rst h t).getD v 0 = 2 * h.getD v 0 + t * nbr h v := by
  rw [rst, List.getD_eq_getElem?_getD, List.getElem?_map, List.getElem?_range hv]
  rfl
theorem rst_bd {h : List Int} {t : Int} (ht : t = 1 ∨ t = -1) (hb : Bd 124 h) : Bd 127 (rst h t) := by
  intro x hx
  obtain ⟨v, hv, rfl⟩ := List.mem_map.mp hx
  have m0 := bd_getD hb v
  have m1 := nbr_bd (v := v) hb
  have m2 : (t * nbr h v).natAbs = (nbr h v).natAbs := by rw [Int.natAbs_mul]; rcases ht with rfl | rfl <;> simp
  refine Nat.le_trans (Int.natAbs_add_le ..) ?_
  rw [m2, Int.natAbs_mul]
  exact Nat.le_trans (Nat.add_le_add (Nat.mul_le_mul_left 2 m0) m1) (by decide)
theorem part_bd : ∀ v < 8, ∀ u < 8, ∀ t : Int, t = 1 ∨ t = -1 → (part v u t).natAbs ≤ 2 ^ 1 := by
  intro v hv u hu t ht
  rcases ht with rfl | rfl <;> (revert v u; decide)
theorem getD_append_left {a b : List Int} {j : Nat} (h : j < a.length) : (a ++ b).getD j 0 = a.getD j 0 := by
  rw [List.getD_eq_getElem?_getD, List.getD_eq_getElem?_getD, List.getElem?_append_left h]
theorem getD_append_right {a b : List Int} {j : Nat} (h : a.length ≤ j) : (a ++ b).getD j 0 = b.getD (j - a.length) 0 := by
  rw [List.getD_eq_getElem?_getD, List.getD_eq_getElem?_getD, List.getElem?_append_right h]
structure VecOk (S : Int → Bool) (vec : List Int) : Prop where
  len : vec.length = 16
  bd : Bd 127 vec
  ne : ∃ x ∈ vec, x ≠ 0
  sup : ∀ v : Nat, v < 16 → vec.getD v 0 ≠ 0 → S (v : Int) = true
  eig : ∀ v : Nat, v < 16 → aro vec v = 2 * vec.getD v 0
/-- the half's vector: its kernel facts -/
theorem half_facts {S : Int → Bool} {o t : Int} {y : List Int} (ht : t = 1 ∨ t = -1) (hy : y.length = (fr8 S o).length) (hb : Bd 124 y) (hne : ∃ v ∈ y, v ≠ 0) (hd : ∀ r ∈ (AA S (1 - o)).map (rowOf (fr8 S o) t), dot r y = 0) :
    ∃ h, h = scat (List.replicate 8 0) (fr8 S o) y ∧ h.length = 8 ∧ Bd 124 h ∧ (∃ v ∈ h, v ≠ 0) ∧ (∀ v : Nat, v < 8 → h.getD v 0 ≠ 0 → S (8 * o + v) = true) ∧ (∀ v : Nat, v < 8 → (rst h t).getD v 0 ≠ 0 → S (8 * (1 - o) + v) = true) := by
  have nd : (rg 8).Nodup := by decide
  have H := scat_ok (e := 124) (fr8 S o) y (List.replicate 8 0) hy.symm (nd.filter _) (fun u hu => mem_fr8 hu) (by simp) (fun x hx => by rw [(List.mem_replicate.mp hx).2]; exact Nat.zero_le _) hb
    (fun u _ => rep_getD 8 _)
  refine ⟨_, rfl, H.len, H.bd, H.ne hne, fun v hv h0 => ?_, fun v hv h0 => ?_⟩
  · cases hs : S (8 * o + v) with
    | true => rfl
    | false =>
      refine absurd ?_ h0
      rw [H.other v fun hm => ?_]
      · exact rep_getD 8 _
      · rw [(List.mem_filter.mp hm).2] at hs; cases hs
  · cases hs : S (8 * (1 - o) + v) with
    | true => rfl
    | false =>
      refine absurd ?_ h0
      rw [rst_get hv, ← dot_part H.len ht v hv, H.dots _ (by simp), dot_rep]
      have hm : (v : Int) ∈ AA S (1 - o) := List.mem_filter.mpr ⟨mem_rg.mpr ⟨by omega, by omega⟩, by simp [hs]⟩
      have := hd _ (List.mem_map.mpr ⟨_, hm, rfl⟩)
      rw [Int.zero_add, ← this]
      congr 1
      refine List.map_congr_left fun u hu => ?_
      have hu' := mem_fr8 hu
      rw [List.getD_eq_getElem?_getD, List.getElem?_map, List.getElem?_range (by omega), Int.toNat_natCast]
      rfl
theorem vec_ok {S : Int → Bool} {o t : Int} {h : List Int} (ho : (o = 0 ∧ t = -1) ∨ (o = 1 ∧ t = 1)) (hl : h.length = 8) (hb : Bd 124 h) (hne : ∃ v ∈ h, v ≠ 0) (h1 : ∀ v : Nat, v < 8 → h.getD v 0 ≠ 0 → S (8 * o + v) = true) (h2 : ∀ v : Nat, v < 8 → (rst h t).getD v 0 ≠ 0 → S (8 * (1 - o) + v) = true) :
    VecOk S (if o = 0 then h ++ rst h t else rst h t ++ h) := by
  have hb' : Bd 127 h := fun x hx => Nat.le_trans (hb x hx) (Nat.pow_le_pow_right (by decide) (by decide))
  rcases ho with ⟨rfl, rfl⟩ | ⟨rfl, rfl⟩
  · rw [if_pos rfl]
    refine ⟨by simp [hl, rst_len], fun x hx => ?_, ?_, fun v hv h0 => ?_, eigen0 hl⟩
    · rcases List.mem_append.mp hx with hx | hx
      · exact hb' x hx
      · exact rst_bd (.inr rfl) hb x hx
    · obtain ⟨v, hv, h0⟩ := hne
      exact ⟨v, List.mem_append_left _ hv, h0⟩
    · by_cases h8 : v < 8
      · rw [getD_append_left (by omega)] at h0
        have := h1 v h8 h0
        rwa [show (8 : Int) * 0 + v = v from by omega] at this
      · rw [getD_append_right (by omega), hl] at h0
        have := h2 (v - 8) (by omega) h0
        rwa [show (8 : Int) * (1 - 0) + ((v - 8 : Nat) : Int) = v from by omega] at this
  · rw [if_neg (by decide)]
    refine ⟨by simp [hl, rst_len], fun x hx => ?_, ?_, fun v hv h0 => ?_, eigen1 hl⟩
    · rcases List.mem_append.mp hx with hx | hx
      · exact rst_bd (.inl rfl) hb x hx
      · exact hb' x hx
    · obtain ⟨v, hv, h0⟩ := hne
      exact ⟨v, List.mem_append_right _ hv, h0⟩
    · by_cases h8 : v < 8
      · rw [getD_append_left (by rw [rst_len]; exact h8)] at h0
        have := h2 v h8 h0
        rwa [show (8 : Int) * (1 - 1) + v = v from by omega] at this
      · rw [getD_append_right (by rw [rst_len]; omega), rst_len] at h0
        have := h1 (v - 8) (by omega) h0
        rwa [show (8 : Int) * 1 + ((v - 8 : Nat) : Int) = v from by omega] at this
end Mine
end

-- L11
section
open PySem
set_option maxRecDepth 100000
set_option autoImplicit false
set_option genSizeOf false
set_option genInjectivity false
set_option linter.unusedSimpArgs false
set_option linter.unusedVariables false
namespace Mine
noncomputable abbrev vOwn : E := .ite (.cmp .GtE (.bi .len (.cons (.idx (.var 1) (.lit (.int 0))) .nil)) (.bi .len (.cons (.idx (.var 1) (.lit (.int 1))) .nil))) (.lit (.int 0)) (.lit (.int 1))
theorem own_ev {Γ : Nat → List PV → Option PV} {S : Int → Bool} {L : Option PV} : ev Γ vOwn (VF L (some (.lst [iL (AA S 0), iL (AA S 1)])) none none none none none none none none none none) = some (.int (if (AA S 1).length ≤ (AA S 0).length then 0 else 1)) := by
  have l0 := len_ev (l := AA S 0) (by have := AA_le S 0; omega)
  have l1 := len_ev (l := AA S 1) (by have := AA_le S 1; omega)
  have e0 : ∀ {ρ : PE}, ρ.get 1 = some (.lst [iL (AA S 0), iL (AA S 1)]) → ev Γ (.idx (.var 1) (.lit (.int 0))) ρ = some (iL (AA S 0)) := fun g => (e_idx (e := .var 1) (x := 0) g rfl).trans rfl
  have e1 : ∀ {ρ : PE}, ρ.get 1 = some (.lst [iL (AA S 0), iL (AA S 1)]) → ev Γ (.idx (.var 1) (.lit (.int 1))) ρ = some (iL (AA S 1)) := fun g => (e_idx (e := .var 1) (x := 1) g rfl).trans rfl
  refine (e_ite (t_cmp (op := .GtE) (t := decide ((AA S 1).length ≤ (AA S 0).length)) ((e_bi1 (e0 rfl)).trans l0) ((e_bi1 (e1 rfl)).trans l1) (show some (decide (((AA S 1).length : Int) ≤ ((AA S 0).length : Int))) = _ from congrArg some (decide_eq_decide.mpr Int.ofNat_le)))).trans ?_
  by_cases h : (AA S 1).length ≤ (AA S 0).length
  · rw [if_pos h, decide_eq_true h]
    rfl
  · rw [if_neg h, decide_eq_false h]
    rfl
theorem vec_run {n : Nat} {S : Int → Bool} {o t : Int} (hS : 9 ≤ ((rg 16).filter S).length) (ho : (o = 0 ∧ t = -1) ∨ (o = 1 ∧ t = 1)) (hown : (if (AA S 1).length ≤ (AA S 0).length then 0 else 1) = o) (hle : (AA S (1 - o)).length ≤ (AA S o).length) :
    ∃ vec, GG (n + 4) 16 [iL ((rg 16).filter S)] = some (iL vec) ∧ VecOk S vec := by
  have hs := AA_sum S hS
  have ho' : o = 0 ∨ o = 1 := by omega
  have ht : t = 1 ∨ t = -1 := by omega
  have hsum : (AA S o).length + (AA S (1 - o)).length ≤ 7 := by
    rcases ho' with rfl | rfl
    · exact hs
    · rw [Nat.add_comm]; exact hs
  have hfr := fr_sum S o
  obtain ⟨y, k1, k2, k3, k4, k5⟩ := g_kernel (n := n) (m := (fr8 S o).length) (rows := (AA S (1 - o)).map (rowOf (fr8 S o) t)) (by omega)
    (fun r hr => by
      obtain ⟨v, hv, rfl⟩ := List.mem_map.mp hr
      have hv' := (mem_AA hv).1
      refine ⟨by simp [rowOf], fun x hx => ?_⟩
      obtain ⟨u, hu, rfl⟩ := List.mem_map.mp hx
      have hu' := mem_fr8 hu
      exact part_bd _ (by omega) _ (by omega) t ht) (by rw [List.length_map]; omega) (by rw [List.length_map]; omega)
  obtain ⟨h, h0, h1, h2, h3, h4, h5⟩ := half_facts ht k2 k3 k4 k5
  refine ⟨_, ?_, vec_ok ho h1 h2 h3 h4 h5⟩
  obtain ⟨s7, s8, p1⟩ := scat_loop (Γ := GG (n + 3)) (L := some (iL ((rg 16).filter S))) (s1 := some (.lst [iL (AA S 0), iL (AA S 1)])) (s2 := some (.int o)) (s3 := some (.int t)) (s4 := some (iL (fr8 S o))) (s5 := some (iL y)) (fr8 S o) y (List.replicate 8 0) none none (by simp) (fun u hu => mem_fr8 hu)
  rw [← h0] at p1
  obtain ⟨s7', s10', p2⟩ := rest_loop (n := n + 2) (L := some (iL ((rg 16).filter S))) (s1 := some (.lst [iL (AA S 0), iL (AA S 1)])) (s2 := some (.int o)) (s4 := some (iL (fr8 S o))) (s5 := some (iL y)) (s8 := s8) ht h1 h2 (List.range 8) [] s7 none (fun v hv => List.mem_range.mp hv) (by simp)
  rw [List.nil_append] at p2
  change _ = some (VF _ _ _ _ _ _ _ _ _ _ _ (some (9, rst h t)), none) at p2
  refine run_at (VF (some (iL ((rg 16).filter S))) none none none none none none none none none none none) rfl rfl ?_
  refine Runs.assign (i := 1) out_ev rfl ?_
  refine Runs.assign (i := 2) (w := .int o) (by rw [← hown]; exact own_ev) rfl ?_
  refine Runs.assign (i := 3) (w := .int t) ?_ rfl ?_
  · rcases ho with ⟨rfl, rfl⟩ | ⟨rfl, rfl⟩ <;> rfl
  refine Runs.assign (i := 4) (free_ev ho') rfl ?_
  refine Runs.assign (i := 5) (w := iL y) ?_ rfl ?_
  · have r := rows_ev (n := n + 1) (S := S) (L := some (iL ((rg 16).filter S))) ho' ht
    have l := len_ev (l := fr8 S o) (by omega)
    rw [List.map_map] at k1
    exact (e_call (e_more r (e_list1 ((e_bi1 rfl).trans l)))).trans k1
  have own8 : ∀ (L s1 s2 s3 s4 s5 : Option PV), ex (GG (n + 3)) (.assignOwn 6 (.repl 0 (.lit (.int 8)))) (VF L s1 s2 s3 s4 s5 none none none none none none) = some (VF L s1 s2 s3 s4 s5 none none none none none (some (6, List.replicate 8 0)), none) := fun _ _ _ _ _ _ => rfl
  refine Runs.next (own8 _ _ _ _ _ _) ?_
  refine Runs.next (ex_for (items := zipP ((fr8 S o).map .int) (y.map .int)) ?_ p1) ?_
  · exact if_pos (show (room _ && room _) = true by rw [List.length_map, List.length_map, room_ok (by omega), room_ok (by omega)]; rfl)
  refine Runs.next (ρ' := VF (some (iL ((rg 16).filter S))) (some (.lst [iL (AA S 0), iL (AA S 1)])) (some (.int o)) (some (.int t)) (some (iL (fr8 S o))) (some (iL y)) (some (iL h)) s7 s8 none none none) rfl ?_
  refine Runs.next (ρ' := VF (some (iL ((rg 16).filter S))) (some (.lst [iL (AA S 0), iL (AA S 1)])) (some (.int o)) (some (.int t)) (some (iL (fr8 S o))) (some (iL y)) (some (iL h)) s7 s8 none none (some (9, []))) rfl ?_
  refine Runs.next (ex_for (range_ev (n := 8) rfl (by decide)) p2) ?_
  refine Runs.next (ρ' := VF (some (iL ((rg 16).filter S))) (some (.lst [iL (AA S 0), iL (AA S 1)])) (some (.int o)) (some (.int t)) (some (iL (fr8 S o))) (some (iL y)) (some (iL h)) s7' s8 (some (iL (rst h t))) s10' none) rfl ?_
  refine Runs.ret ?_
  have hr : ∀ a b : List Int, a.length = 8 → b.length = 8 → binP .Add (iL a) (iL b) = some (iL (a ++ b)) := fun a b ha hb => by
    refine (if_pos (room_ok (by rw [List.length_map, List.length_map]; omega))).trans ?_
    rw [← List.map_append]
  have hl2 := rst_len h t
  rcases ho' with rfl | rfl
  · exact hr _ _ h1 hl2
  · exact hr _ _ hl2 h1
theorem g_vector {n : Nat} {S : Int → Bool} (hS : 9 ≤ ((rg 16).filter S).length) : ∃ vec, GG (n + 4) 16 [iL ((rg 16).filter S)] = some (iL vec) ∧ VecOk S vec := by
  by_cases h : (AA S 1).length ≤ (AA S 0).length
  · exact vec_run (o := 0) (t := -1) hS (.inl ⟨rfl, rfl⟩) (if_pos h) h
  · exact vec_run (o := 1) (t := 1) hS (.inr ⟨rfl, rfl⟩) (if_neg h) (by show (AA S 0).length ≤ (AA S 1).length; omega)
end Mine
end

-- L12
section
open PySem
set_option maxRecDepth 100000
set_option autoImplicit false
set_option genSizeOf false
set_option genInjectivity false
set_option linter.unusedSimpArgs false
set_option linter.unusedVariables false
namespace Mine
noncomputable abbrev APs : Array UInt8 := #[65, 66, 67, 68, 69, 70, 71, 72, 73, 74, 75, 76, 77, 78, 79, 80]
noncomputable def apd : Nat → Nat → List UInt8 → List UInt8
  | 0, _, acc => acc
  | k + 1, m, acc => if m = 0 then acc else apd k (m / 16) (UInt8.ofNat (65 + m % 16) :: acc)
/-- the letters that Int2AP writes -/
noncomputable def apL (m : Nat) : List UInt8 := apd 399 m []
theorem ap_cut : ∀ k : Nat, k < 16 → slP (.byt APs) (some (k : Int)) (some ((k : Int) + 1)) = some (.byt #[UInt8.ofNat (65 + k)])
  | 0, _ => rfl
  | 1, _ => rfl
  | 2, _ => rfl
  | 3, _ => rfl
  | 4, _ => rfl
  | 5, _ => rfl
  | 6, _ => rfl
  | 7, _ => rfl
  | 8, _ => rfl
  | 9, _ => rfl
  | 10, _ => rfl
  | 11, _ => rfl
  | 12, _ => rfl
  | 13, _ => rfl
  | 14, _ => rfl
  | 15, _ => rfl
  | k + 16, h => absurd h (by omega)
noncomputable abbrev apBody : SL := .cons (.assign2 0 3 (.bi .divmod (.cons (.var 0) (.cons (.lit (.int 16)) .nil)))) (.cons (.assign 1 (.bin .Add (.slLH (.var 2) (.var 3) (.bin .Add (.var 3) (.lit (.int 1)))) (.var 1))) .nil)
theorem dm_ok {a b : Int} (hb : b ≠ 0) (h : b.natAbs < 2 ^ 512) : biP .divmod [.int a, .int b] = some (.tup [.int (Int.fdiv a b), .int (Int.fmod a b)]) := (if_pos hb).trans (if_pos (big_of h))
theorem ex_assign2 {Γ : Nat → List PV → Option PV} {ρ : PE} {e : E} {i j : Nat} {v u : PV} (h : ev Γ e ρ = some (.tup [v, u])) (hf : (ρ.free i && ρ.free j) = true) : ex Γ (.assign2 i j e) ρ = some ((ρ.set i v).set j u, none) := show (ev Γ e ρ).bind _ = _ from bs h (if_pos hf)
theorem e_meth {Γ : Nat → List PV → Option PV} {ρ : PE} {m : MI} {o : E} {es : EL} {x : Str} {vs : List PV} (ho : ev Γ o ρ = some (.str x)) (hs : evL Γ es ρ = some vs) : ev Γ (.meth m o es) ρ = methP m (.str x) vs := show (ev Γ o ρ).bind _ = _ from bs ho (show (evL Γ es ρ).bind _ = _ from bs hs rfl)
theorem low_ok {x : Str} (h : (Txt.lower x).length < 4096) : methP .lower (.str x) [] = some (.str (Txt.lower x)) := if_pos (room_ok h)
theorem e_bi {Γ : Nat → List PV → Option PV} {ρ : PE} {b : BI} {r : EL} {vs : List PV} (h : evL Γ r ρ = some vs) : ev Γ (.bi b r) ρ = biP b vs := show (evL Γ r ρ).bind _ = _ from bs h rfl
theorem e_cut {Γ : Nat → List PV → Option PV} {ρ : PE} {a lo hi : E} {v z : PV} {k m : Int} (ha : ev Γ a ρ = some v) (h1 : ev Γ lo ρ = some (.int k)) (h2 : ev Γ hi ρ = some (.int m)) (h : slP v (some k) (some m) = some z) : ev Γ (.slLH a lo hi) ρ = some z := show (ev Γ a ρ).bind _ = _ from bs ha (bs h1 (show (ev Γ hi ρ).bind _ = _ from bs h2 h))
theorem ap_loop {Γ : Nat → List PV → Option PV} : ∀ (k m : Nat) (acc : List UInt8) (d : Option PV), m < 16 ^ k → acc.length + k < 4000 →
    ∃ d', whileGo (fun ρ => trP (ev Γ (.var 0) ρ)) (fun ρ => exs Γ apBody ρ) (k + 1) ⟨[some (.int (m : Int)), some (.byt acc.toArray), some (.byt APs), d], none, none⟩ = some (⟨[some (.int 0), some (.byt (apd k m acc).toArray), some (.byt APs), d'], none, none⟩, none)
  | 0, m, acc, d, hm, _ => by
    have : m = 0 := by simpa using hm
    subst this
    exact ⟨d, while_stop rfl⟩
  | k + 1, m, acc, d, hm, hl => by
    by_cases h0 : m = 0
    · subst h0
      refine ⟨d, ?_⟩
      rw [apd, if_pos rfl]
      exact while_stop rfl
    · obtain ⟨d', h⟩ := ap_loop (Γ := Γ) k (m / 16) (UInt8.ofNat (65 + m % 16) :: acc) (some (.int ((m % 16 : Nat) : Int))) (by rw [Nat.pow_succ] at hm; omega) (by rw [List.length_cons]; omega)
      refine ⟨d', ?_⟩
      rw [apd, if_neg h0, ← h]
      refine while_step ?_ ?_
      · show some ((m : Int) != 0) = some true
        have : (m : Int) ≠ 0 := by omega
        simp [h0]
      · have hd : biP .divmod [.int (m : Int), .int 16] = some (.tup [.int ((m / 16 : Nat) : Int), .int ((m % 16 : Nat) : Int)]) := by
          refine (dm_ok (by decide) (by decide)).trans ?_
          rw [Int.fdiv_eq_ediv_of_nonneg _ (by decide), Int.fmod_eq_emod_of_nonneg _ (by decide)]
          rfl
        have s1 : ex Γ (.assign2 0 3 (.bi .divmod (.cons (.var 0) (.cons (.lit (.int 16)) .nil)))) ⟨[some (.int (m : Int)), some (.byt acc.toArray), some (.byt APs), d], none, none⟩ = some (⟨[some (.int ((m / 16 : Nat) : Int)), some (.byt acc.toArray), some (.byt APs), some (.int ((m % 16 : Nat) : Int))], none, none⟩, none) :=
          ex_assign2 ((e_bi (e_more rfl (e_list1 rfl))).trans hd) rfl
        rw [exs_next s1]
        refine exs_one (ex_assign (v := .byt (UInt8.ofNat (65 + m % 16) :: acc).toArray) ?_ rfl)
        have hc := ap_cut (m % 16) (by omega)
        refine (e_bin (e_cut rfl rfl ((e_bin rfl rfl).trans rfl) hc) rfl).trans ?_
        refine (if_pos (room_ok ?_)).trans (congrArg (fun l => some (PV.byt l)) (Array.ext' (by simp)))
        simp
        omega
theorem g_ap {n : Nat} {x : Int} (h : x.natAbs < 16 ^ 399) : GG (n + 1) 5 [.int x] = some (.byt (apL x.natAbs).toArray) := by
  obtain ⟨d', hw⟩ := ap_loop (Γ := GG n) 399 x.natAbs [] none h (by decide)
  refine run_at ⟨[some (.int x), none, none, none], none, none⟩ rfl rfl ?_
  refine Runs.assign (i := 1) (w := .byt #[]) rfl rfl ?_
  refine Runs.assign (i := 2) (w := .byt APs) rfl rfl ?_
  refine Runs.assign (i := 0) (w := .int (x.natAbs : Int)) ?_ rfl ?_
  · show some (PV.int (if x < 0 then -x else x)) = _
    congr 2
    split <;> omega
  refine Runs.next (show ex (GG n) (.whil 400 (.var 0) apBody) _ = _ from hw) ?_
  exact Runs.ret rfl
theorem apd_app : ∀ (k m : Nat) (acc : List UInt8), apd k m acc = apd k m [] ++ acc
  | 0, m, acc => rfl
  | k + 1, m, acc => by
    rw [apd, apd]
    split
    · rfl
    · rw [apd_app k, apd_app k (m / 16) [_], List.append_assoc]; rfl
theorem apd_len : ∀ (k m : Nat), (apd k m []).length ≤ k
  | 0, m => Nat.zero_le _
  | k + 1, m => by
    rw [apd]
    split
    · exact Nat.zero_le _
    · rw [apd_app, List.length_append]
      have := apd_len k (m / 16)
      simp; omega
theorem ap_char (m : Nat) : (UInt8.ofNat (65 + m % 16)).toNat = 65 + m % 16 := by
  rw [UInt8.toNat_ofNat']
  omega
theorem apd_mem : ∀ (k m : Nat), ∀ c ∈ apd k m [], 65 ≤ c.toNat ∧ c.toNat ≤ 80
  | 0, m, c, h => by cases h
  | k + 1, m, c, h => by
    rw [apd] at h
    split at h
    · cases h
    · rw [apd_app] at h
      rcases List.mem_append.mp h with h | h
      · exact apd_mem k _ c h
      · rw [List.mem_singleton.mp h, ap_char]; omega
/-- the number that the letters spell -/
noncomputable def hor : Int → List UInt8 → Int
  | s, [] => s
  | s, c :: r => hor (16 * s + (c.toNat : Int) - 65) r
theorem hor_app : ∀ (a b : List UInt8) (s : Int), hor s (a ++ b) = hor (hor s a) b
  | [], b, s => rfl
  | c :: a, b, s => by rw [List.cons_append, hor, hor, hor_app a b]
theorem hor_apd : ∀ (k m : Nat), m < 16 ^ k → hor 0 (apd k m []) = m
  | 0, m, h => by
    have : m = 0 := by simpa using h
    subst this; rfl
  | k + 1, m, h => by
    rw [apd]
    split
    · rename_i h0; subst h0; rfl
    · rw [apd_app, hor_app, hor_apd k (m / 16) (by rw [Nat.pow_succ] at h; omega)]
      show 16 * ((m / 16 : Nat) : Int) + ((UInt8.ofNat (65 + m % 16)).toNat : Int) - 65 = m
      rw [ap_char]; omega
theorem apd_rev : ∀ (k m j : Nat), m < 16 ^ k → ((apd k m []).reverse.map UInt8.toNat).getD j 65 = 65 + m / 16 ^ j % 16
  | 0, m, j, h => by
    have : m = 0 := by simpa using h
    subst this; simp [apd]
  | k + 1, m, j, h => by
    rw [apd]
    split
    · rename_i h0; subst h0; simp
    · rw [apd_app, List.reverse_append, List.map_append]
      cases j with
      | zero => simp [ap_char]; omega
      | succ j =>
        have := apd_rev k (m / 16) j (by rw [Nat.pow_succ] at h; omega)
        simp only [List.reverse_cons, List.reverse_nil, List.nil_append, List.map_cons, List.map_nil, List.cons_append, List.getD_cons_succ]
        rw [this, Nat.div_div_eq_div_mul, Nat.pow_succ, Nat.mul_comm 16]
/-- a text of letters -/
noncomputable def chT (l : List UInt8) : Str := ⟨(l.map UInt8.toNat).toArray⟩
end Mine
end

-- L13
section
open PySem
set_option maxRecDepth 100000
set_option autoImplicit false
set_option genSizeOf false
set_option genInjectivity false
set_option linter.unusedSimpArgs false
set_option linter.unusedVariables false
namespace Mine
theorem join_1 : ∀ l : List UInt8, Str.join (Str.ofString "") (l.map fun c => ⟨#[c.toNat]⟩) = chT l
  | [] => rfl
  | [c] => rfl
  | c :: d :: r => by
    have ih := join_1 (d :: r)
    show (⟨#[c.toNat]⟩ : Str) ++ Str.ofString "" ++ Str.join (Str.ofString "") ((d :: r).map fun c => ⟨#[c.toNat]⟩) = _
    rw [ih]
    show Str.append (Str.append ⟨#[c.toNat]⟩ (Str.ofString "")) (chT (d :: r)) = _
    have e : Str.ofString "" = ⟨#[]⟩ := rfl
    rw [e]
    simp [Str.append, chT]
theorem joinOk_one {l : List UInt8} (h : l.length < 4096) : JoinOk (Str.ofString "") (l.map fun c => ⟨#[c.toNat]⟩) = true := by
  have key : ∀ (l : List UInt8) (a : Nat), (l.map fun c => (⟨#[c.toNat]⟩ : Str)).foldl (fun a x => a + x.length + (Str.ofString "").length) a = a + l.length := by
    intro l
    induction l with
    | nil => intro a; rfl
    | cons c l ih =>
      intro a
      rw [List.map_cons, List.foldl_cons, ih, List.length_cons]
      show a + 1 + 0 + l.length = _
      omega
  unfold JoinOk
  rw [List.foldl_toArray, key]
  unfold Builtin.Str.tooLong
  rw [sizeLine_eq]
  simp; omega
theorem strsOf_map {α : Type} (f : α → Str) : ∀ l : List α, strsOf (l.map fun c => .str (f c)) = some (l.map f)
  | [] => rfl
  | c :: l => show (strsOf (l.map fun c => .str (f c))).bind _ = _ from bs (strsOf_map f l) rfl
theorem text_ev {Γ : Nat → List PV → Option PV} {ρ : PE} {e : E} {k : Nat} {l : List UInt8} (h : ev Γ (.call 5 (.cons e .nil)) ρ = some (.byt l.toArray)) (hl : l.length < 4096) (hk : k < ρ.vals.length) :
    ev Γ (.meth .join (.lit (.str (Str.ofString ""))) (.cons (.comp (.bi .chr (.cons (.var k) .nil)) (.one (Str.ofString "octet") k) (.exp (.call 5 (.cons e .nil)))) .nil)) ρ = some (.str (chT l)) := by
  have hi : itemsP (.byt l.toArray) = some (l.map fun c => .int c.toNat) := if_pos (room_ok hl)
  have hv : ∀ c : UInt8, ev Γ (.var k) (PE.mk (ρ.vals.set k (some (.int (c.toNat : Int)))) none none) = some (.int (c.toNat : Int)) := fun c => show (ρ.vals.set k (some (.int (c.toNat : Int))))[k]?.bind _ = _ from bs (List.getElem?_set_self hk) rfl
  have hc : ev Γ (.comp (.bi .chr (.cons (.var k) .nil)) (.one (Str.ofString "octet") k) (.exp (.call 5 (.cons e .nil)))) ρ = some (.lst (l.map fun c => .str ⟨#[c.toNat]⟩)) :=
    e_comp (g := fun c : UInt8 => .str ⟨#[c.toNat]⟩) (e_items h hi) fun c hc => ⟨_, rfl, (e_bi1 (hv c)).trans (if_pos (show 0 ≤ (c.toNat : Int) ∧ (c.toNat : Int) ≤ 1114111 by have := c.toNat_lt; omega))⟩
  refine (e_meth rfl (e_list1 hc)).trans (show (strsOf _).bind _ = _ from bs (strsOf_map (fun c : UInt8 => (⟨#[c.toNat]⟩ : Str)) l) ((if_pos (joinOk_one hl)).trans ?_))
  unfold Txt.join
  rw [StrLaws.glued_eq_join, join_1]
theorem apd_len' : ∀ (k m j : Nat), m < 16 ^ j → (apd k m []).length ≤ j
  | 0, m, j, _ => Nat.zero_le _
  | k + 1, m, j, h => by
    rw [apd]
    split
    · exact Nat.zero_le _
    · rename_i h0
      cases j with
      | zero => simp at h; omega
      | succ j =>
        rw [apd_app, List.length_append]
        have := apd_len' k (m / 16) j (by rw [Nat.pow_succ] at h; omega)
        simp; omega
/-- the names -/
noncomputable def nameU (v : Nat) : Str := ⟨#[66, 65 + v]⟩
noncomputable def nameL (v : Nat) : Str := ⟨#[98, 97 + v]⟩
theorem all16 {p : Nat → Bool} (h : (List.range 16).all p = true) {v : Nat} (hv : v < 16) : p v = true := List.all_eq_true.mp h v (List.mem_range.mpr hv)
theorem low_U {v : Nat} (hv : v < 16) : Txt.lower (nameU v) = nameL v := by
  have := all16 (p := fun v => Txt.lower (nameU v) == nameL v) (by decide +kernel) hv
  exact eq_of_beq this
theorem low_L {v : Nat} (hv : v < 16) : Txt.lower (nameL v) = nameL v := by
  have := all16 (p := fun v => Txt.lower (nameL v) == nameL v) (by decide +kernel) hv
  exact eq_of_beq this
theorem ok_U {v : Nat} (hv : v < 16) : okText (nameU v) = true := all16 (p := fun v => okText (nameU v)) (by decide +kernel) hv
theorem ok_L {v : Nat} (hv : v < 16) : okText (nameL v) = true := all16 (p := fun v => okText (nameL v)) (by decide +kernel) hv
theorem ap_name {v : Nat} (hv : v < 16) : apL (16 + v) = [66, UInt8.ofNat (65 + v)] ∧ chT (apL (16 + v)) = nameU v := by
  have h1 := all16 (p := fun v => decide (apL (16 + v) = [66, UInt8.ofNat (65 + v)])) (by decide +kernel) hv
  have h2 := all16 (p := fun v => chT (apL (16 + v)) == nameU v) (by decide +kernel) hv
  exact ⟨of_decide_eq_true h1, eq_of_beq h2⟩
theorem nameL_inj {v u : Nat} (h : nameL v = nameL u) : v = u := by
  unfold nameL at h
  injection h with h
  have := congrArg (fun a : Array Nat => a.getD 1 0) h
  simp at this
  omega
theorem nameU_inj {v u : Nat} (h : nameU v = nameU u) : v = u := by
  unfold nameU at h
  injection h with h
  have := congrArg (fun a : Array Nat => a.getD 1 0) h
  simp at this
  omega
theorem nameUL {v u : Nat} (h : nameL v = nameU u) : False := by
  unfold nameU nameL at h
  injection h with h
  have := congrArg (fun a : Array Nat => a.getD 0 0) h
  simp at this
theorem ok_chT {l : List UInt8} (h : ∀ c ∈ l, 65 ≤ c.toNat ∧ c.toNat ≤ 80) : okText (chT l) = true := by
  unfold okText chT
  simp only [List.all_toArray, List.all_eq_true, List.mem_map]
  rintro x ⟨c, hc, rfl⟩
  have := h c hc
  simp; omega
theorem chT_len (l : List UInt8) : (chT l).length = l.length := by simp [chT, Str.length]
noncomputable def nm (n : Int) (v : Nat) : Str := if 0 < n then nameU v else nameL v
noncomputable def bookL : Nat → List Int → List (Str × Str)
  | _, [] => []
  | v, n :: r => if n = 0 then bookL (v + 1) r else (nm n v, chT (apL n.natAbs)) :: bookL (v + 1) r
theorem bookL_len : ∀ (r : List Int) (v : Nat), (bookL v r).length ≤ r.length
  | [], _ => Nat.le_refl _
  | n :: r, v => by
    have := bookL_len r (v + 1)
    rw [bookL]
    split <;> simp <;> omega
noncomputable abbrev BF (V s2 s3 s4 : Option PV) (xs : List (Str × Str)) : PE := ⟨[V, none, s2, s3, s4, none, none], none, some (1, xs)⟩
noncomputable abbrev bName : E := .meth .join (.lit (.str (Str.ofString ""))) (.cons (.comp (.bi .chr (.cons (.var 5) .nil)) (.one (Str.ofString "octet") 5) (.exp (.call 5 (.cons (.bin .Add (.lit (.int 16)) (.var 2)) .nil)))) .nil)
noncomputable abbrev bText : E := .meth .join (.lit (.str (Str.ofString ""))) (.cons (.comp (.bi .chr (.cons (.var 6) .nil)) (.one (Str.ofString "octet") 6) (.exp (.call 5 (.cons (.var 3) .nil)))) .nil)
noncomputable abbrev bPick : E := .ite (.cmp .Gt (.var 3) (.lit (.int 0))) (.var 4) (.meth .lower (.var 4) .nil)
noncomputable abbrev bThen : SL := .cons (.assign 4 bName) (.cons (.hadd 1 bPick bText) .nil)
noncomputable abbrev bBody : SL := .cons (.ife (.cmp .NotEq (.var 3) (.lit (.int 0))) bThen .nil) .nil
theorem book_loop {n : Nat} {V : Option PV} : ∀ (r : List Int) (v : Nat) (xs : List (Str × Str)) (s2 s3 s4 : Option PV), v + r.length ≤ 16 → (∀ x ∈ r, x.natAbs < 16 ^ 399) → xs.length + r.length < 4000 →
    ∃ s2' s3' s4', forGo (.two (Str.ofString "v") 2 (Str.ofString "n") 3) (fun ρ => exs (GG (n + 1)) bBody ρ) (enumP v (r.map .int)) (BF V s2 s3 s4 xs) = some (BF V s2' s3' s4' (xs ++ bookL v r), none)
  | [], v, xs, s2, s3, s4, _, _, _ => ⟨s2, s3, s4, by simp [enumP, forGo, bookL]⟩
  | x :: r, v, xs, s2, s3, s4, hv, hr, hl => by
    rw [List.length_cons] at hv hl
    have hb : bindT (.two (Str.ofString "v") 2 (Str.ofString "n") 3) (.tup [.int (v : Int), .int x]) (BF V s2 s3 s4 xs) = some (BF V (some (.int (v : Int))) (some (.int x)) s4 xs) := rfl
    by_cases hx : x = 0
    · subst hx
      obtain ⟨a, b, c, h⟩ := book_loop (n := n) (V := V) r (v + 1) xs (some (.int (v : Int))) (some (.int 0)) s4 (by omega) (fun y hy => hr y (.tail _ hy)) (by omega)
      refine ⟨a, b, c, ?_⟩
      rw [bookL, if_pos rfl, ← h]
      exact for_step hb (exs_one (ex_ife (t := false) rfl rfl))
    · obtain ⟨a, b, c, h⟩ := book_loop (n := n) (V := V) r (v + 1) (xs ++ [(nm x v, chT (apL x.natAbs))]) (some (.int (v : Int))) (some (.int x)) (some (.str (nameU v))) (by omega) (fun y hy => hr y (.tail _ hy)) (by rw [List.length_append, List.length_singleton]; omega)
      refine ⟨a, b, c, ?_⟩
      rw [bookL, if_neg hx, show xs ++ (nm x v, chT (apL x.natAbs)) :: bookL (v + 1) r = xs ++ [(nm x v, chT (apL x.natAbs))] ++ bookL (v + 1) r by simp, ← h]
      refine for_step hb (exs_one (ex_ife (t := true) ?_ ?_))
      · show some (x != 0) = some true
        simp [hx]
      · have hv16 : v < 16 := by omega
        have e1 : ev (GG (n + 1)) (.call 5 (.cons (.bin .Add (.lit (.int 16)) (.var 2)) .nil)) (BF V (some (.int (v : Int))) (some (.int x)) s4 xs) = some (.byt (apL (16 + v)).toArray) := by
          have := g_ap (n := n) (x := 16 + (v : Int)) (Nat.lt_of_le_of_lt (m := 32) (by omega) (by decide +kernel))
          rw [show (16 + (v : Int)).natAbs = 16 + v by omega] at this
          exact (e_call1 ((e_bin rfl rfl).trans rfl)).trans this
        have t1 := text_ev (k := 5) e1 (by rw [(ap_name hv16).1]; exact (by decide : 2 < 4096)) (by simp)
        rw [(ap_name hv16).2] at t1
        refine exs_to (ex_assign (i := 4) t1 rfl) ?_
        have e2 : ev (GG (n + 1)) (.call 5 (.cons (.var 3) .nil)) (BF V (some (.int (v : Int))) (some (.int x)) (some (.str (nameU v))) xs) = some (.byt (apL x.natAbs).toArray) := (e_call1 rfl).trans (g_ap (hr x (.head _)))
        have l2 : (apL x.natAbs).length < 4096 := by have := apd_len 399 x.natAbs; unfold apL; omega
        have t2 := text_ev (k := 6) e2 l2 (by simp)
        have t3 : ev (GG (n + 1)) bPick (BF V (some (.int (v : Int))) (some (.int x)) (some (.str (nameU v))) xs) = some (.str (nm x v)) := by
          refine (e_ite (t_cmp (op := .Gt) (t := decide (0 < x)) rfl rfl rfl)).trans ?_
          by_cases h0 : 0 < x
          · rw [decide_eq_true h0, nm, if_pos h0]
            rfl
          · rw [decide_eq_false h0, nm, if_neg h0]
            exact (e_meth rfl rfl).trans (low_U hv16 ▸ low_ok (low_U hv16 ▸ (by decide : 2 < 4096)))
        refine exs_one ?_
        have hg : ((GG (n + 1)) 26 [.str (nm x v), .str (chT (apL x.natAbs))]).isSome = true := by
          have : GG (n + 1) 26 [.str (nm x v), .str (chT (apL x.natAbs))] = some .none := by
            show (if okText (nm x v) = true ∧ (nm x v).length < 4096 ∧ okText (chT (apL x.natAbs)) = true ∧ (chT (apL x.natAbs)).length < 4096 then some PV.none else none) = _
            rw [if_pos]
            refine ⟨?_, ?_, ok_chT (apd_mem _ _), by rw [chT_len]; exact l2⟩
            · unfold nm; split
              · exact ok_U hv16
              · exact ok_L hv16
            · unfold nm; split <;> exact (by decide : 2 < 4096)
          rw [this]; rfl
        exact show (ev _ bPick _).bind _ = _ from bs t3 (show (ev _ bText _).bind _ = _ from bs t2 (if_pos ⟨rfl, room_ok (show xs.length < 4096 by omega), hg⟩))
theorem g_book {n : Nat} {vec : List Int} (hl : vec.length ≤ 16) (hb : ∀ x ∈ vec, x.natAbs < 16 ^ 399) : GG (n + 2) 17 [iL vec] = some (.hdr (bookL 0 vec)) := by
  obtain ⟨a, b, c, h⟩ := book_loop (n := n) (V := some (iL vec)) vec 0 [] none none none (by omega) hb (by simp; omega)
  refine run_at ⟨[some (iL vec), none, none, none, none, none, none], none, none⟩ rfl rfl ?_
  refine Runs.next (ρ' := BF (some (iL vec)) none none none []) rfl ?_
  refine Runs.next (ex_for (items := enumP 0 (vec.map .int)) ?_ h) ?_
  · exact if_pos (room_ok (by rw [List.length_map]; omega))
  rw [List.nil_append]
  refine Runs.next (ρ' := ⟨[some (iL vec), some (.hdr (bookL 0 vec)), a, b, c, none, none], none, none⟩) rfl ?_
  exact Runs.ret rfl
end Mine
end

-- L14
section
open PySem
set_option maxRecDepth 100000
set_option autoImplicit false
set_option genSizeOf false
set_option genInjectivity false
set_option linter.unusedSimpArgs false
set_option linter.unusedVariables false
namespace Mine
noncomputable abbrev prL (xs : List (Str × Str)) : List PV := xs.map fun p => .tup [.str p.1, .str p.2]
theorem hattr_items {Γ : Nat → List PV → Option PV} {ρ : PE} {xs : List (Str × Str)} {i : Nat} (h : ρ.get i = some (.hdr xs)) (hl : xs.length < 4096) : evS Γ (.exp (.hattr (.var i))) ρ = some (prL xs) := by
  refine e_items (e := .hattr (.var i)) (show (ρ.get i).bind _ = _ from bs h (if_pos (room_ok hl))) (items_lst (xs := prL xs) (by rw [List.length_map]; exact hl))
theorem g_keys {n : Nat} {xs : List (Str × Str)} (hl : xs.length < 4096) : GG (n + 1) 23 [.hdr xs] = some (.lst (xs.map fun p => .str p.1)) := by
  refine run_at ⟨[some (.hdr xs), none, none], none, none⟩ rfl rfl (Runs.ret ?_)
  exact e_comp (g := fun p : Str × Str => .str p.1) (hattr_items rfl hl) fun p hp => ⟨_, rfl, rfl⟩
noncomputable def lk (xs : List (Str × Str)) (key : Str) : Option Str := (xs.find? fun p => Txt.lower p.1 == key).map (·.2)
noncomputable abbrev gBody : SL := .cons (.ife (.cmp .Eq (.meth .lower (.var 3) .nil) (.var 1)) (.cons (.ret (.var 4)) .nil) .nil) .nil
theorem get_loop {Γ : Nat → List PV → Option PV} {H D : Option PV} {key : Str} : ∀ (xs : List (Str × Str)) (k v : Option PV), (∀ p ∈ xs, (Txt.lower p.1).length < 4096) →
    ∃ k' v', forGo (.two (Str.ofString "k") 3 (Str.ofString "v") 4) (fun ρ => exs Γ gBody ρ) (prL xs) ⟨[H, some (.str key), D, k, v], none, none⟩ = some (⟨[H, some (.str key), D, k', v'], none, none⟩, (lk xs key).map .str)
  | [], k, v, _ => ⟨k, v, rfl⟩
  | p :: xs, k, v, h => by
    have hb : bindT (.two (Str.ofString "k") 3 (Str.ofString "v") 4) (.tup [.str p.1, .str p.2]) ⟨[H, some (.str key), D, k, v], none, none⟩ = some ⟨[H, some (.str key), D, some (.str p.1), some (.str p.2)], none, none⟩ := rfl
    have ht : trP (ev Γ (.cmp .Eq (.meth .lower (.var 3) .nil) (.var 1)) ⟨[H, some (.str key), D, some (.str p.1), some (.str p.2)], none, none⟩) = some (Txt.lower p.1 == key) := t_cmp ((e_meth rfl rfl).trans (low_ok (h p (.head _)))) rfl rfl
    cases hk : Txt.lower p.1 == key with
    | true =>
      rw [hk] at ht
      refine ⟨some (.str p.1), some (.str p.2), ?_⟩
      have hf : lk (p :: xs) key = some p.2 := by simp [lk, hk]
      rw [hf]
      show forGo _ _ (.tup [.str p.1, .str p.2] :: prL xs) _ = _
      exact show (bindT _ _ _).bind _ = _ from bs hb (show (exs Γ gBody _).bind _ = _ from bs (show (ex Γ _ _).bind _ = _ from bs (ex_ife (Γ := Γ) (b := .nil) (a := .cons (.ret (.var 4)) .nil) (o := (⟨[H, some (.str key), D, some (.str p.1), some (.str p.2)], none, none⟩, some (.str p.2))) ht rfl) rfl) rfl)
    | false =>
      rw [hk] at ht
      obtain ⟨k', v', ih⟩ := get_loop (Γ := Γ) (H := H) (D := D) (key := key) xs (some (.str p.1)) (some (.str p.2)) fun q hq => h q (.tail _ hq)
      refine ⟨k', v', ?_⟩
      have hf : lk (p :: xs) key = lk xs key := by simp [lk, hk]
      rw [hf, ← ih]
      exact for_step hb (exs_one (ex_ife ht rfl))
theorem g_get {n : Nat} {xs : List (Str × Str)} {x d : Str} (hl : xs.length < 4096) (h : ∀ p ∈ xs, (Txt.lower p.1).length < 4096) (hx : okText (Txt.lower x) = true) (hx2 : (Txt.lower x).length < 4096) : GG (n + 2) 24 [.hdr xs, .str x, .str d] = some (.str ((lk xs (Txt.lower x)).getD d)) := by
  obtain ⟨k', v', hg⟩ := get_loop (Γ := GG (n + 1)) (H := some (.hdr xs)) (D := some (.str d)) (key := Txt.lower x) xs none none h
  refine run_at ⟨[some (.hdr xs), some (.str x), some (.str d), none, none], none, none⟩ rfl rfl ?_
  refine Runs.assign (i := 1) (w := .str (Txt.lower x)) ?_ rfl ?_
  · exact show (ev _ (.var 0) _).bind _ = _ from bs rfl (show (ev _ (.meth .lower (.var 1) .nil) _).bind _ = _ from bs ((e_meth rfl rfl).trans (low_ok hx2)) (if_pos ⟨hx, hx2⟩))
  have hs : ex (GG (n + 1)) (.for (.two (Str.ofString "k") 3 (Str.ofString "v") 4) (.exp (.hattr (.var 0))) gBody) ⟨[some (.hdr xs), some (.str (Txt.lower x)), some (.str d), none, none], none, none⟩ = some (⟨[some (.hdr xs), some (.str (Txt.lower x)), some (.str d), k', v'], none, none⟩, (lk xs (Txt.lower x)).map .str) := ex_for (hattr_items rfl hl) hg
  cases hk : lk xs (Txt.lower x) with
  | none =>
    rw [hk] at hs
    exact Runs.next hs (Runs.ret rfl)
  | some y =>
    rw [hk] at hs
    exact Runs.stop hs
theorem low_nm {x : Int} {v : Nat} (hv : v < 16) : Txt.lower (nm x v) = nameL v := by
  unfold nm
  split
  · exact low_U hv
  · exact low_L hv
theorem bookL_keys : ∀ (r : List Int) (k : Nat), k + r.length ≤ 16 → ∀ p ∈ bookL k r, (Txt.lower p.1).length < 4096
  | [], _, _, p, h => by cases h
  | x :: r, k, hk, p, h => by
    rw [List.length_cons] at hk
    rw [bookL] at h
    split at h
    · exact bookL_keys r (k + 1) (by omega) p h
    · rcases List.mem_cons.mp h with rfl | h
      · rw [low_nm (by omega)]; exact (by decide : 2 < 4096)
      · exact bookL_keys r (k + 1) (by omega) p h
theorem lk_before : ∀ (r : List Int) (k v : Nat), k + r.length ≤ 16 → v < k → lk (bookL k r) (nameL v) = none
  | [], _, _, _, _ => rfl
  | x :: r, k, v, hk, hv => by
    rw [List.length_cons] at hk
    rw [bookL]
    split
    · exact lk_before r (k + 1) v (by omega) (by omega)
    · have ih := lk_before r (k + 1) v (by omega) (by omega)
      have hne : (Txt.lower (nm x k) == nameL v) = false := by
        rw [low_nm (by omega), beq_eq_false_iff_ne]
        intro e
        have := nameL_inj e
        omega
      simpa [lk, hne] using ih
theorem lk_book : ∀ (r : List Int) (k v : Nat), k + r.length ≤ 16 → k ≤ v → v < k + r.length → (lk (bookL k r) (nameL v)).getD (Str.ofString "") = chT (apL (r.getD (v - k) 0).natAbs)
  | [], k, v, _, _, h => by simp at h; omega
  | x :: r, k, v, hk, hkv, hv => by
    rw [List.length_cons] at hk hv
    by_cases e : v = k
    · subst e
      rw [Nat.sub_self, List.getD_cons_zero, bookL]
      split
      · rename_i h0
        subst h0
        rw [lk_before r (v + 1) v (by omega) (by omega)]
        rfl
      · have : (Txt.lower (nm x v) == nameL v) = true := by rw [low_nm (by omega)]; simp
        simp [lk, this]
    · have ih := lk_book r (k + 1) v (by omega) (by omega) (by omega)
      have e2 : v - k = (v - (k + 1)) + 1 := by omega
      rw [e2, List.getD_cons_succ, ← ih, bookL]
      split
      · rfl
      · have hne : (Txt.lower (nm x k) == nameL v) = false := by
          rw [low_nm (by omega), beq_eq_false_iff_ne]
          intro e
          have := nameL_inj e
          omega
        simp [lk, hne]
theorem any_before : ∀ (r : List Int) (k v : Nat), v < k → ((bookL k r).map (·.1)).any (· == nameU v) = false
  | [], _, _, _ => rfl
  | x :: r, k, v, hv => by
    rw [bookL]
    split
    · exact any_before r (k + 1) v (by omega)
    · rw [List.map_cons, List.any_cons, any_before r (k + 1) v (by omega), Bool.or_false, beq_eq_false_iff_ne]
      intro e
      unfold nm at e
      split at e
      · have := nameU_inj e; omega
      · exact nameUL e
theorem any_book : ∀ (r : List Int) (k v : Nat), k ≤ v → v < k + r.length → ((bookL k r).map (·.1)).any (· == nameU v) = decide (0 < r.getD (v - k) 0)
  | [], k, v, _, h => by simp at h; omega
  | x :: r, k, v, hkv, hv => by
    rw [List.length_cons] at hv
    by_cases e : v = k
    · subst e
      rw [Nat.sub_self, List.getD_cons_zero, bookL]
      split
      · rename_i h0
        subst h0
        rw [any_before r (v + 1) v (by omega)]
        rfl
      · rw [List.map_cons, List.any_cons, any_before r (v + 1) v (by omega), Bool.or_false]
        unfold nm
        split
        · rename_i h; simp [h]
        · rename_i h
          rw [decide_eq_false h, beq_eq_false_iff_ne]
          exact fun e => nameUL e
    · have ih := any_book r (k + 1) v (by omega) (by omega)
      have e2 : v - k = (v - (k + 1)) + 1 := by omega
      rw [e2, List.getD_cons_succ, ← ih, bookL]
      split
      · rfl
      · rw [List.map_cons, List.any_cons]
        have : (nm x k == nameU v) = false := by
          rw [beq_eq_false_iff_ne]
          intro e
          unfold nm at e
          split at e
          · have := nameU_inj e; omega
          · exact nameUL e
        rw [this, Bool.false_or]
end Mine
end

-- L15
section
open PySem
set_option maxRecDepth 100000
set_option autoImplicit false
set_option genSizeOf false
set_option genInjectivity false
set_option linter.unusedSimpArgs false
set_option linter.unusedVariables false
namespace Mine
theorem g_contains {n : Nat} {xs : List (Str × Str)} {x : Str} (hl : xs.length < 4096) : GG (n + 1) 4 [.lst (xs.map fun p => .str p.1), .str x] = some (.bool ((xs.map (·.1)).any (· == x))) := by
  refine run_at ⟨[some (.lst (xs.map fun p => .str p.1)), some (.str x)], none, none⟩ rfl rfl (Runs.ret ?_)
  have h : cmpP .In (.str x) (.lst (xs.map fun p => .str p.1)) = some ((xs.map (·.1)).any (· == x)) :=show (strsOf _).bind _ = _ from bs (strsOf_map (fun p : Str × Str => p.1) xs) (if_pos (room_ok (by rw [List.length_map]; exact hl)))
  exact e_cmp rfl rfl h
noncomputable abbrev TF (H N v nm sz lt : Option PV) (acc : List Int) : PE := ⟨[H, N, none, v, nm, sz, lt], some (2, acc), none⟩
noncomputable abbrev tStep : E := .bin .Sub (.bin .Add (.bin .Mult (.lit (.int 16)) (.var 5)) (.bi .ord (.cons (.var 6) .nil))) (.lit (.int 65))
theorem hor_loop {Γ : Nat → List PV → Option PV} {H N v nm : Option PV} {acc : List Int} : ∀ (l : List UInt8) (s : Int) (i : Nat) (lt : Option PV), 0 ≤ s → s < 16 ^ i → i + l.length ≤ 32 → (∀ c ∈ l, 65 ≤ c.toNat ∧ c.toNat ≤ 80) →
    ∃ lt', forGo (.one (Str.ofString "letter") 6) (fun ρ => exs Γ (.cons (.assign 5 tStep) .nil) ρ) (l.map fun c => .str ⟨#[c.toNat]⟩) (TF H N v nm (some (.int s)) lt acc) = some (TF H N v nm (some (.int (hor s l))) lt' acc, none)
  | [], s, i, lt, _, _, _, _ => ⟨lt, rfl⟩
  | c :: l, s, i, lt, h0, h1, hi, hc => by
    rw [List.length_cons] at hi
    obtain ⟨c1, c2⟩ := hc c (.head _)
    obtain ⟨lt', h⟩ := hor_loop (Γ := Γ) (H := H) (N := N) (v := v) (nm := nm) (acc := acc) l (16 * s + (c.toNat : Int) - 65) (i + 1) (some (.str ⟨#[c.toNat]⟩)) (by omega) (by rw [Int.pow_succ]; omega) (by omega) fun d hd => hc d (.tail _ hd)
    refine ⟨lt', ?_⟩
    rw [hor, ← h]
    refine for_step (ρ₁ := TF H N v nm (some (.int s)) (some (.str ⟨#[c.toNat]⟩)) acc) rfl (exs_one (ex_assign ?_ rfl))
    have b2 : s.natAbs < 2 ^ 512 := by
      refine Nat.lt_of_lt_of_le (m := 16 ^ i) ?_ (Nat.le_trans (show 16 ^ i ≤ 16 ^ 32 from Nat.pow_le_pow_right (by decide) (by omega)) (Nat.le_of_ble_eq_true rfl))
      have : ((16 ^ i : Nat) : Int) = 16 ^ i := Int.natCast_pow ..
      omega
    exact (e_bin (op := .Sub) ((e_bin (op := .Add) ((e_bin (op := .Mult) rfl rfl).trans (mul_ok (a := 16) (by decide) b2)) ((e_bi1 rfl).trans (show biP .ord [.str ⟨#[c.toNat]⟩] = some (.int (c.toNat : Int)) from rfl))).trans (show binP .Add (.int (16 * s)) (.int (c.toNat : Int)) = some (.int (16 * s + (c.toNat : Int))) from rfl)) rfl).trans rfl
noncomputable abbrev tName : E := .bin .Add (.lit (.str (Str.ofString "B"))) (.idx (.lit (.str (Str.ofString "ABCDEFGHIJKLMNOP"))) (.var 3))
theorem tname_ev {Γ : Nat → List PV → Option PV} {ρ : PE} {v : Nat} (hv : v < 16) (h : ρ.get 3 = some (.int (v : Int))) : ev Γ tName ρ = some (.str (nameU v)) := by
  have key : ∀ v : Nat, v < 16 → ∃ z, idxP (.str (Str.ofString "ABCDEFGHIJKLMNOP")) (v : Int) = some z ∧ addP (.str (Str.ofString "B")) z = some (.str (nameU v)) := fun v hv => by
    match v, hv with
    | 0, _ => exact ⟨_, rfl, rfl⟩
    | 1, _ => exact ⟨_, rfl, rfl⟩
    | 2, _ => exact ⟨_, rfl, rfl⟩
    | 3, _ => exact ⟨_, rfl, rfl⟩
    | 4, _ => exact ⟨_, rfl, rfl⟩
    | 5, _ => exact ⟨_, rfl, rfl⟩
    | 6, _ => exact ⟨_, rfl, rfl⟩
    | 7, _ => exact ⟨_, rfl, rfl⟩
    | 8, _ => exact ⟨_, rfl, rfl⟩
    | 9, _ => exact ⟨_, rfl, rfl⟩
    | 10, _ => exact ⟨_, rfl, rfl⟩
    | 11, _ => exact ⟨_, rfl, rfl⟩
    | 12, _ => exact ⟨_, rfl, rfl⟩
    | 13, _ => exact ⟨_, rfl, rfl⟩
    | 14, _ => exact ⟨_, rfl, rfl⟩
    | 15, _ => exact ⟨_, rfl, rfl⟩
    | k + 16, h => exact absurd h (Nat.not_lt.mpr (Nat.le_add_left ..))
  obtain ⟨z, h1, h2⟩ := key v hv
  exact (e_bin (op := .Add) (v := .str (Str.ofString "B")) rfl ((e_idx (e' := .var 3) rfl h).trans h1)).trans h2
noncomputable abbrev tGet : Src := .exp (.meth .get (.var 0) (.cons (.var 4) (.cons (.lit (.str (Str.ofString ""))) .nil)))
noncomputable abbrev tPut : E := .ite (.call 4 (.cons (.var 1) (.cons (.var 4) .nil))) (.var 5) (.call 1 (.cons (.var 5) .nil))
noncomputable abbrev tBody : SL := .cons (.assign 4 tName) (.cons (.assign 5 (.lit (.int 0))) (.cons (.for (.one (Str.ofString "letter") 6) tGet (.cons (.assign 5 tStep) .nil)) (.cons (.append 2 tPut) .nil)))
theorem told_loop {n : Nat} {vec : List Int} (hl : vec.length = 16) (hb : Bd 127 vec) : ∀ (vs : List Nat) (acc : List Int) (v nm sz lt : Option PV), (∀ u ∈ vs, u < 16) → acc.length + vs.length < 4000 →
    ∃ v' nm' sz' lt', forGo (.one (Str.ofString "v") 3) (fun ρ => exs (GG (n + 2)) tBody ρ) (vs.map fun (u : Nat) => PV.int (u : Int)) (TF (some (.hdr (bookL 0 vec))) (some (.lst ((bookL 0 vec).map fun p => .str p.1))) v nm sz lt acc)
      = some (TF (some (.hdr (bookL 0 vec))) (some (.lst ((bookL 0 vec).map fun p => .str p.1))) v' nm' sz' lt' (acc ++ vs.map fun u => vec.getD u 0), none)
  | [], acc, v, nm, sz, lt, _, _ => ⟨v, nm, sz, lt, by simp [forGo]⟩
  | u :: vs, acc, v, nm, sz, lt, hv, hlen => by
    rw [List.length_cons] at hlen
    have hu := hv u (.head _)
    have hbl : (bookL 0 vec).length < 4096 := by have := bookL_len vec 0; omega
    have hm : (vec.getD u 0).natAbs < 16 ^ 32 := Nat.lt_of_le_of_lt (bd_getD hb u) (by decide)
    have ha : (apL (vec.getD u 0).natAbs).length ≤ 32 := apd_len' _ _ _ hm
    have hh : hor 0 (apL (vec.getD u 0).natAbs) = ((vec.getD u 0).natAbs : Int) := hor_apd 399 _ (Nat.lt_trans hm (by decide +kernel))
    obtain ⟨lt1, k1⟩ := hor_loop (Γ := GG (n + 2)) (H := some (.hdr (bookL 0 vec))) (N := some (.lst ((bookL 0 vec).map fun p => .str p.1))) (v := some (.int (u : Int))) (nm := some (.str (nameU u))) (acc := acc) (apL (vec.getD u 0).natAbs) 0 0 lt (by decide) (by decide) (by omega) (apd_mem _ _)
    rw [hh] at k1
    obtain ⟨v', nm', sz', lt', ih⟩ := told_loop (n := n) hl hb vs (acc ++ [vec.getD u 0]) (some (.int (u : Int))) (some (.str (nameU u))) (some (.int ((vec.getD u 0).natAbs : Int))) lt1 (fun w hw => hv w (.tail _ hw)) (by rw [List.length_append, List.length_singleton]; omega)
    refine ⟨v', nm', sz', lt', ?_⟩
    rw [show acc ++ (u :: vs).map (fun u => vec.getD u 0) = acc ++ [vec.getD u 0] ++ vs.map (fun u => vec.getD u 0) by simp, ← ih]
    refine for_step (ρ₁ := TF (some (.hdr (bookL 0 vec))) (some (.lst ((bookL 0 vec).map fun p => .str p.1))) (some (.int (u : Int))) nm sz lt acc) rfl ?_
    rw [exs_next (ex_assign (i := 4) (tname_ev hu rfl) rfl), exs_next (ex_assign (i := 5) (v := .int 0) rfl rfl)]
    have hg : evS (GG (n + 2)) tGet (TF (some (.hdr (bookL 0 vec))) (some (.lst ((bookL 0 vec).map fun p => .str p.1))) (some (.int (u : Int))) (some (.str (nameU u))) (some (.int 0)) lt acc) = some ((apL (vec.getD u 0).natAbs).map fun c => .str ⟨#[c.toNat]⟩) := by
      have g1 := g_get (n := n) (xs := bookL 0 vec) (x := nameU u) (d := Str.ofString "") hbl (bookL_keys vec 0 (by omega)) (by rw [low_U hu]; exact ok_L hu) (by rw [low_U hu]; exact (by decide : 2 < 4096))
      rw [low_U hu, lk_book vec 0 u (by omega) (by omega) (by omega), Nat.sub_zero] at g1
      have e : ev (GG (n + 2)) (.meth .get (.var 0) (.cons (.var 4) (.cons (.lit (.str (Str.ofString ""))) .nil))) (TF (some (.hdr (bookL 0 vec))) (some (.lst ((bookL 0 vec).map fun p => .str p.1))) (some (.int (u : Int))) (some (.str (nameU u))) (some (.int 0)) lt acc) = some (.str (chT (apL (vec.getD u 0).natAbs))) := g1
      refine e_items e ((if_pos (room_ok (by rw [chT_len]; omega))).trans ?_)
      show some ((((apL (vec.getD u 0).natAbs).map UInt8.toNat).toArray.toList.map fun c => PV.str ⟨#[c]⟩)) = _
      rw [List.toList_toArray, List.map_map]
      rfl
    refine (exs_next (ex_for hg k1)).trans (exs_one (ex_append (v := vec.getD u 0) ?_ rfl (by omega)))
    have g2 := g_contains (n := n + 1) (xs := bookL 0 vec) (x := nameU u) hbl
    rw [any_book vec 0 u (by omega) (by omega), Nat.sub_zero] at g2
    have g3 := g_neg (n := n + 1) (a := ((vec.getD u 0).natAbs : Int))
    refine (e_ite (bs ((e_call2 rfl rfl).trans g2) rfl)).trans ?_
    by_cases h0 : 0 < vec.getD u 0
    · rw [decide_eq_true h0]
      exact congrArg (fun i => some (PV.int i)) (by omega)
    · rw [decide_eq_false h0]
      exact ((e_call1 rfl).trans g3).trans (congrArg (fun i => some (PV.int i)) (by omega))
theorem list_getD : ∀ (l : List Int), (List.range l.length).map (fun u => l.getD u 0) = l := by
  intro l
  apply List.ext_getElem
  · simp
  · intro i h1 h2
    simp [h2]
theorem g_told {n : Nat} {vec : List Int} (hl : vec.length = 16) (hb : Bd 127 vec) : GG (n + 3) 18 [.hdr (bookL 0 vec)] = some (iL vec) := by
  have hbl : (bookL 0 vec).length < 4096 := by have := bookL_len vec 0; omega
  obtain ⟨a, b, c, d, h⟩ := told_loop (n := n) hl hb (List.range 16) [] none none none none (fun u hu => List.mem_range.mp hu) (by simp)
  rw [List.nil_append, ← hl, list_getD] at h
  refine run_at ⟨[some (.hdr (bookL 0 vec)), none, none, none, none, none, none], none, none⟩ rfl rfl ?_
  have hk : ev (GG (n + 2)) (.meth .keys (.var 0) .nil) ⟨[some (.hdr (bookL 0 vec)), none, none, none, none, none, none], none, none⟩ = some (.lst ((bookL 0 vec).map fun p => .str p.1)) := g_keys (n := n + 1) hbl
  refine Runs.assign (i := 1) hk rfl ?_
  refine Runs.next (ρ' := TF (some (.hdr (bookL 0 vec))) (some (.lst ((bookL 0 vec).map fun p => .str p.1))) none none none none []) rfl ?_
  rw [hl] at h
  refine Runs.next (ex_for (range_ev (n := 16) rfl (by decide)) h) ?_
  refine Runs.next (ρ' := ⟨[some (.hdr (bookL 0 vec)), some (.lst ((bookL 0 vec).map fun p => .str p.1)), some (iL vec), a, b, c, d], none, none⟩) rfl ?_
  exact Runs.ret rfl
end Mine
end

-- L16
section
open PySem
set_option maxRecDepth 100000
set_option autoImplicit false
set_option genSizeOf false
set_option genInjectivity false
set_option linter.unusedSimpArgs false
set_option linter.unusedVariables false
namespace Mine
/-- one neighbour's part is added -/
noncomputable def add1 (v : Nat) (n : Int) (xs : List Int) (g : Nat) : List Int := xs.set (v ^^^ g) (xs.getD (v ^^^ g) 0 + sg ((v ^^^ g) / (2 * g)) * n)
noncomputable def add4 (xs : List Int) (v : Nat) (n : Int) : List Int := [1, 2, 4, 8].foldl (add1 v n) xs
noncomputable def addAll : List Int → Nat → List Int → List Int
  | xs, _, [] => xs
  | xs, v, n :: r => addAll (add4 xs v n) (v + 1) r
theorem add1_len (v : Nat) (n : Int) (xs : List Int) (g : Nat) : (add1 v n xs g).length = xs.length := by simp [add1]
theorem set_same : ∀ (xs : List Int) (j : Nat), xs.set j (xs.getD j 0) = xs
  | [], j => rfl
  | x :: xs, 0 => rfl
  | x :: xs, j + 1 => by
    rw [List.set_cons_succ, List.getD_cons_succ, set_same xs j]
theorem add1_zero (v : Nat) (xs : List Int) (g : Nat) : add1 v 0 xs g = xs := by
  unfold add1
  rw [Int.mul_zero, Int.add_zero, set_same]
theorem add4_zero (xs : List Int) (v : Nat) : add4 xs v 0 = xs := by
  simp only [add4, List.foldl_cons, List.foldl_nil, add1_zero]
theorem add4_len (xs : List Int) (v : Nat) (n : Int) : (add4 xs v n).length = xs.length := by
  simp only [add4, List.foldl_cons, List.foldl_nil, add1_len]
noncomputable abbrev AF (T v n g u : Option PV) (xs : List Int) : PE := ⟨[T, none, v, n, g, u], some (1, xs), none⟩
noncomputable abbrev aBody : SL := .cons (.assign 5 (.call 3 (.cons (.var 2) (.cons (.var 4) .nil)))) (.cons (.sub 1 (.var 5) (.bin .Add (.oidx 1 (.var 5)) (.bin .Mult (.call 8 (.cons (.bin .FloorDiv (.var 5) (.bin .Mult (.lit (.int 2)) (.var 4))) .nil)) (.var 3)))) .nil)
theorem gap_loop {n v : Nat} {x : Int} {T : Option PV} (hv : v < 16) (hb : big x = true) : ∀ (gs : List Nat) (xs : List Int) (g u : Option PV), (∀ g ∈ gs, 0 < g ∧ g < 16) → xs.length = 16 →
    ∃ g' u', forGo (.one (Str.ofString "gap") 4) (fun ρ => exs (GG (n + 1)) aBody ρ) (gs.map fun (g : Nat) => PV.int (g : Int)) (AF T (some (.int (v : Int))) (some (.int x)) g u xs) = some (AF T (some (.int (v : Int))) (some (.int x)) g' u' (gs.foldl (add1 v x) xs), none)
  | [], xs, g, u, _, _ => ⟨g, u, rfl⟩
  | g :: gs, xs, g0, u0, hg, hl => by
    obtain ⟨g1, g2⟩ := hg g (.head _)
    obtain ⟨g', u', h⟩ := gap_loop (n := n) (T := T) hv hb gs (add1 v x xs g) (some (.int (g : Int))) (some (.int ((v ^^^ g : Nat) : Int))) (fun w hw => hg w (.tail _ hw)) ((add1_len ..).trans hl)
    refine ⟨g', u', ?_⟩
    rw [List.foldl_cons, ← h]
    have hx : v ^^^ g < 16 := xor_lt (k := 4) hv g2
    have c1 : ev (GG (n + 1)) (.call 3 (.cons (.var 2) (.cons (.var 4) .nil))) (AF T (some (.int (v : Int))) (some (.int x)) (some (.int (g : Int))) u0 xs) = some (.int ((v ^^^ g : Nat) : Int)) := (e_call2 rfl rfl).trans (g_xor' (n := n) hv g2)
    refine for_step (ρ₁ := AF T (some (.int (v : Int))) (some (.int x)) (some (.int (g : Int))) u0 xs) rfl ((exs_next (ex_assign c1 rfl)).trans (exs_one ?_))
    have c3 : ev (GG (n + 1)) (.oidx 1 (.var 5)) (AF T (some (.int (v : Int))) (some (.int x)) (some (.int (g : Int))) (some (.int ((v ^^^ g : Nat) : Int))) xs) = some (.int (xs.getD (v ^^^ g) 0)) := ev_oidx rfl rfl (by omega) (by omega)
    have c5 := (e_bin (op := .Add) c3 ((e_bin (op := .Mult) (e' := .var 3) ((e_call1 (f := 8) ((e_bin (op := .FloorDiv) (e := .var 5) rfl ((e_bin (op := .Mult) (e := .lit (.int 2)) (e' := .var 4) rfl rfl).trans (two_mul (by omega)))).trans (div_nat (by omega) (by omega)))).trans (g_sign (Nat.lt_of_le_of_lt (Nat.div_le_self ..) hx))) rfl).trans (mul_ok (sg_512 _) (of_decide_eq_true hb)))).trans rfl
    exact ex_sub (i := 1) (a := .var 5) (k := v ^^^ g) c5 rfl rfl (by omega) (by omega)
noncomputable abbrev aOut : SL := .cons (.ife (.cmp .NotEq (.var 3) (.lit (.int 0))) (.cons (.for (.one (Str.ofString "gap") 4) (.exp (.tup (.cons (.lit (.int 1)) (.cons (.lit (.int 2)) (.cons (.lit (.int 4)) (.cons (.lit (.int 8)) .nil)))))) aBody) .nil) .nil) .nil
theorem around_loop {n : Nat} {T : Option PV} : ∀ (r : List Int) (v : Nat) (xs : List Int) (s2 s3 s4 s5 : Option PV), v + r.length ≤ 16 → (∀ x ∈ r, big x = true) → xs.length = 16 →
    ∃ a b c d, forGo (.two (Str.ofString "v") 2 (Str.ofString "n") 3) (fun ρ => exs (GG (n + 1)) aOut ρ) (enumP v (r.map .int)) (AF T s2 s3 s4 s5 xs) = some (AF T a b c d (addAll xs v r), none)
  | [], v, xs, s2, s3, s4, s5, _, _, _ => ⟨s2, s3, s4, s5, rfl⟩
  | x :: r, v, xs, s2, s3, s4, s5, hv, hr, hl => by
    rw [List.length_cons] at hv
    have hb : bindT (.two (Str.ofString "v") 2 (Str.ofString "n") 3) (.tup [.int (v : Int), .int x]) (AF T s2 s3 s4 s5 xs) = some (AF T (some (.int (v : Int))) (some (.int x)) s4 s5 xs) := rfl
    by_cases hx : x = 0
    · subst hx
      obtain ⟨a, b, c, d, h⟩ := around_loop (n := n) (T := T) r (v + 1) xs (some (.int (v : Int))) (some (.int 0)) s4 s5 (by omega) (fun y hy => hr y (.tail _ hy)) hl
      refine ⟨a, b, c, d, ?_⟩
      rw [addAll, add4_zero, ← h]
      exact for_step hb (exs_one (ex_ife (t := false) rfl rfl))
    · obtain ⟨g', u', k⟩ := gap_loop (n := n) (v := v) (x := x) (T := T) (by omega) (hr x (.head _)) [1, 2, 4, 8] xs s4 s5 (by decide) hl
      obtain ⟨a, b, c, d, h⟩ := around_loop (n := n) (T := T) r (v + 1) (add4 xs v x) (some (.int (v : Int))) (some (.int x)) g' u' (by omega) (fun y hy => hr y (.tail _ hy)) ((add4_len ..).trans hl)
      refine ⟨a, b, c, d, ?_⟩
      rw [addAll, ← h]
      refine for_step hb (exs_one (ex_ife (t := true) ?_ ?_))
      · exact congrArg some (bne_iff_ne.mpr hx)
      · exact exs_one (ex_for (items := ([1, 2, 4, 8] : List Nat).map fun (g : Nat) => PV.int (g : Int)) rfl k)
/-- the sums, by rows of coefficients -/
noncomputable def add1C (v : Nat) (c : List Int) (X : List (List Int)) (g : Nat) : List (List Int) := X.set (v ^^^ g) (vadd (X.getD (v ^^^ g) []) (vsc (sg ((v ^^^ g) / (2 * g))) c))
noncomputable def addAllC : List (List Int) → Nat → List (List Int) → List (List Int)
  | X, _, [] => X
  | X, v, c :: r => addAllC ([1, 2, 4, 8].foldl (add1C v c) X) (v + 1) r
theorem getD_len {n : Nat} {X : List (List Int)} (hX : ∀ c ∈ X, c.length = n) {j : Nat} (hj : j < X.length) : (X.getD j []).length = n := by
  rw [List.getD_eq_getElem?_getD, List.getElem?_eq_getElem hj]
  exact hX _ (List.getElem_mem hj)
theorem add1_at {n v g : Nat} {c x : List Int} {X : List (List Int)} (hX : ∀ c ∈ X, c.length = n) (hl : X.length = 16) (hc : c.length = n) (hj : v ^^^ g < 16) :
    add1 v (dot c x) (at_ X x) g = at_ (add1C v c X g) x ∧ (∀ d ∈ add1C v c X g, d.length = n) ∧ (add1C v c X g).length = 16 := by
  have hg := getD_len hX (j := v ^^^ g) (by rw [hl]; exact hj)
  have hd : (X.getD (v ^^^ g) []).length = (vsc (sg ((v ^^^ g) / (2 * g))) c).length := by rw [vsc_len, hg, hc]
  refine ⟨?_, fun d hm => ?_, by rw [add1C, List.length_set, hl]⟩
  · rw [add1, add1C, at_get, at_, at_, List.map_set, dot_vadd _ _ _ hd, dot_vsc]
  · rcases List.mem_or_eq_of_mem_set hm with hm | rfl
    · exact hX d hm
    · rw [vadd_len _ _ hd, hg]
theorem addAll_at {n : Nat} {x : List Int} : ∀ (r : List (List Int)) (v : Nat) (X : List (List Int)), v + r.length ≤ 16 → (∀ c ∈ X, c.length = n) → X.length = 16 → (∀ c ∈ r, c.length = n) → addAll (at_ X x) v (at_ r x) = at_ (addAllC X v r) x
  | [], v, X, _, _, _, _ => rfl
  | c :: r, v, X, hv, hX, hl, hr => by
    rw [List.length_cons] at hv
    have hv16 : v < 2 ^ 4 := by omega
    have hx : ∀ g, g < 2 ^ 4 → v ^^^ g < 16 := fun g hg => Nat.xor_lt_two_pow hv16 hg
    have hc := hr c (.head _)
    obtain ⟨a1, b1, c1⟩ := add1_at (x := x) hX hl hc (hx 1 (by decide))
    obtain ⟨a2, b2, c2⟩ := add1_at (x := x) b1 c1 hc (hx 2 (by decide))
    obtain ⟨a3, b3, c3⟩ := add1_at (x := x) b2 c2 hc (hx 4 (by decide))
    obtain ⟨a4, b4, c4⟩ := add1_at (x := x) b3 c3 hc (hx 8 (by decide))
    show addAll (add4 (at_ X x) v (dot c x)) (v + 1) (at_ r x) = at_ (addAllC (add1C v c (add1C v c (add1C v c (add1C v c X 1) 2) 4) 8) (v + 1) r) x
    rw [add4]
    simp only [List.foldl_cons, List.foldl_nil]
    rw [a1, a2, a3, a4]
    exact addAll_at r (v + 1) _ (by omega) b4 c4 fun d hd => hr d (.tail _ hd)
theorem addAll_aro {x : List Int} (hl : x.length = 16) : addAll (List.replicate 16 0) 0 x = (List.range 16).map (aro x) := by
  have hu : at_ (units 16) x = x := by rw [← hl]; exact at_units x
  have hz : at_ (List.replicate 16 (List.replicate 16 0)) x = List.replicate 16 0 := by
    rw [at_, List.map_replicate]
    congr 1
    exact dot_zero _ _ fun c => by rw [List.getD_eq_getElem?_getD, List.getElem?_replicate]; split <;> rfl
  have h := addAll_at (n := 16) (x := x) (units 16) 0 (List.replicate 16 (List.replicate 16 0)) (by decide) (by decide) (by decide) (by decide)
  rw [hu, hz] at h
  rw [h, at_]
  have hc : addAllC (List.replicate 16 (List.replicate 16 0)) 0 (units 16) = (List.range 16).map (aroC (units 16)) := by decide +kernel
  rw [hc, List.map_map]
  refine List.map_congr_left fun v hv => ?_
  have := aro_at (C := units 16) (x := x) (n := 16) (by decide) (List.mem_range.mp hv)
  rw [hu] at this
  exact this.symm
end Mine
end

-- L17
section
open PySem
set_option maxRecDepth 100000
set_option autoImplicit false
set_option genSizeOf false
set_option genInjectivity false
set_option linter.unusedSimpArgs false
set_option linter.unusedVariables false
namespace Mine
theorem g_around {n : Nat} {vec : List Int} (hl : vec.length = 16) (hb : Bd 127 vec) : GG (n + 2) 19 [iL vec] = some (iL ((List.range 16).map (aro vec))) := by
  obtain ⟨a, b, c, d, h⟩ := around_loop (n := n) (T := some (iL vec)) vec 0 (List.replicate 16 0) none none none none (by omega) (fun x hx => big_of (pow512 (by decide) (hb x hx))) (by simp)
  rw [addAll_aro hl] at h
  refine run_at ⟨[some (iL vec), none, none, none, none, none], none, none⟩ rfl rfl ?_
  refine Runs.next (ρ' := AF (some (iL vec)) none none none none (List.replicate 16 0)) rfl ?_
  refine Runs.next (ex_for (items := enumP 0 (vec.map .int)) ?_ h) ?_
  · exact if_pos (room_ok (by rw [List.length_map]; omega))
  refine Runs.next (ρ' := ⟨[some (iL vec), some (iL ((List.range 16).map (aro vec))), a, b, c, d], none, none⟩) rfl ?_
  exact Runs.ret rfl
/-- a bit -/
noncomputable def bt (N v : Nat) : Nat := N / 2 ^ v % 2
theorem bt_lt (N v : Nat) : bt N v = 0 ∨ bt N v = 1 := by unfold bt; omega
theorem band1 (N : Nat) : Builtin.bitAnd (N : Int) 1 = ((N % 2 : Nat) : Int) := by
  unfold Builtin.bitAnd
  rw [decide_eq_true (by omega), decide_eq_true (by decide)]
  show ((N &&& 1 : Nat) : Int) = _
  rw [Nat.and_one_is_mod]
noncomputable def fl (N : Nat) : Nat := 2 * (N / 2) + (1 - N % 2)
theorem or1 (N : Nat) : N ||| 1 = 2 * (N / 2) + 1 := by
  have h1 : (N ||| 1) / 2 = N / 2 := by rw [Nat.or_div_two]; simp
  have h2 : (N ||| 1) % 2 = 1 := Nat.or_mod_two_eq_one.mpr (.inr rfl)
  omega
theorem flip1 (N : Nat) : Builtin.bitXor (N : Int) 1 = ((fl N : Nat) : Int) := by
  have ho : Builtin.bitOr (N : Int) 1 = ((N ||| 1 : Nat) : Int) := by
    unfold Builtin.bitOr Builtin.bitAnd Builtin.bitNot
    rw [decide_eq_false (by omega), decide_eq_false (by decide)]
    show -(-((((-(-(N : Int) - 1) - 1).toNat ||| (-(-(1 : Int) - 1) - 1).toNat : Nat) : Int)) - 1) - 1 = _
    have e1 : (-(-(N : Int) - 1) - 1).toNat = N := by omega
    have e2 : (-(-(1 : Int) - 1) - 1).toNat = 1 := by decide
    rw [e1, e2]
    omega
  unfold Builtin.bitXor
  rw [ho, band1, or1]
  unfold fl
  omega
theorem bt_fl0 (N : Nat) : bt (fl N) 0 = 1 - bt N 0 := by
  rw [bt, bt, Nat.pow_zero, Nat.div_one, Nat.div_one, fl, Nat.mul_add_mod]
  exact Nat.mod_eq_of_lt (Nat.lt_succ_of_le (Nat.sub_le ..))
theorem bt_fl (N v : Nat) : bt (fl N) (v + 1) = bt N (v + 1) := by
  unfold bt
  rw [Nat.pow_succ, Nat.mul_comm, ← Nat.div_div_eq_div_mul, ← Nat.div_div_eq_div_mul]
  have : fl N / 2 = N / 2 := by unfold fl; omega
  rw [this]
/-- the sum of the signs where a bit is set -/
noncomputable def bsum (N : Nat) : Int := ((List.range 16).map fun v => sg v * (bt N v : Int)).sum
noncomputable def full (N : Nat) : Nat := if bsum N ≠ 0 then N else fl N
theorem bsum_cut (N : Nat) : bsum N = (bt N 0 : Int) + ((List.range 15).map fun v => sg (v + 1) * (bt N (v + 1) : Int)).sum := by
  rw [bsum, show List.range 16 = 0 :: (List.range 15).map (· + 1) from rfl, List.map_cons, List.sum_cons, List.map_map, show sg 0 = 1 from rfl, Int.one_mul]
  rfl
theorem full_sum (N : Nat) : bsum (full N) ≠ 0 := by
  unfold full
  split
  · assumption
  · rename_i h
    have h0 := bt_lt N 0
    rw [bsum_cut] at h ⊢
    simp only [bt_fl]
    rw [bt_fl0]
    omega
theorem full_lt {N : Nat} (h : N < 65536) : full N < 65536 := by
  unfold full
  split
  · exact h
  · unfold fl; omega
section
variable {Γ : Nat → List PV → Option PV} {ρ : PE}
theorem shr_nat {N v : Nat} : binP .RShift (.int (N : Int)) (.int (v : Int)) = some (.int ((N / 2 ^ v : Nat) : Int)) := (if_pos (e := none) (Int.natCast_nonneg v)).trans (congrArg (fun i => some (PV.int i)) (by
  rw [Int.toNat_natCast, show (2 : Int) ^ v = ((2 ^ v : Nat) : Int) from (Int.natCast_pow 2 v).symm, fdiv_nat]))
theorem bit_ev {i j N v : Nat} (hi : ρ.get i = some (.int (N : Int))) (hj : ρ.get j = some (.int (v : Int))) : ev Γ (.bin .BitAnd (.bin .RShift (.var i) (.var j)) (.lit (.int 1))) ρ = some (.int ((bt N v : Nat) : Int)) := by
  exact (e_bin (op := .BitAnd) (v' := .int 1) ((e_bin (e := .var i) (e' := .var j) hi hj).trans shr_nat) rfl).trans (congrArg (fun i => some (PV.int i)) (band1 _))
theorem range_evN {k : Nat} {e : E} (h : ev Γ e ρ = some (.int (k : Int))) (hk : k < 4096) : evS Γ (.range (.cons e .nil)) ρ = some ((List.range k).map fun (v : Nat) => PV.int (v : Int)) := by
  rw [range_ev h hk, rg, List.map_map]; rfl
end
theorem sum_filter {α : Type} (p : α → Bool) (f : α → Int) : ∀ l : List α, ((l.filter p).map f).sum = (l.map fun x => if p x then f x else 0).sum
  | [] => rfl
  | x :: l => by
    cases h : p x <;> simp [h, sum_filter p f l]
theorem g_full {n N : Nat} : GG (n + 2) 9 [.int (N : Int)] = some (.int ((full N : Nat) : Int)) := by
  refine run_at ⟨[some (.int (N : Int)), none], none, none⟩ rfl rfl (Runs.ret ?_)
  have hc : ev (GG (n + 1)) (.compIf (.call 8 (.cons (.var 1) .nil)) (.one (Str.ofString "v") 1) (.range (.cons (.lit (.int 16)) .nil)) (.bin .BitAnd (.bin .RShift (.var 0) (.var 1)) (.lit (.int 1)))) ⟨[some (.int (N : Int)), none], none, none⟩ = some (iL (((List.range 16).filter fun v => bt N v != 0).map sg)) := by
    refine (e_compIf (p := fun v => bt N v != 0) (g := fun v => .int (sg v)) (range_evN (k := 16) rfl (by decide)) fun v hv => ⟨_, rfl, bs (bit_ev (N := N) (v := v) rfl rfl) ?_, fun _ => (e_call1 rfl).trans (g_sign (List.mem_range.mp hv))⟩).trans (by rw [iL, List.map_map]; rfl)
    rcases bt_lt N v with h | h <;> rw [h] <;> rfl
  have hsum : biP .sum [iL (((List.range 16).filter fun v => bt N v != 0).map sg)] = some (.int (bsum N)) := by
    rw [sum_ev (by rw [List.length_map]; exact Nat.lt_of_le_of_lt (List.length_filter_le ..) (by decide)), sum_filter]
    congr 3
    refine List.map_congr_left fun v _ => ?_
    rcases bt_lt N v with h | h <;> simp [h]
  refine (e_ite (t_cmp (op := .NotEq) (t := bsum N != 0) ((e_bi1 hc).trans hsum) rfl rfl)).trans ?_
  by_cases h : bsum N = 0
  · rw [full, if_neg (fun q => q h), h]
    exact (e_bin (op := .BitXor) (v := .int (N : Int)) (v' := .int 1) rfl rfl).trans (congrArg (fun i => some (PV.int i)) (flip1 N))
  · rw [full, if_pos h, bne_iff_ne.mpr h]
    rfl
end Mine
end

-- L18
section
open PySem
set_option maxRecDepth 100000
set_option autoImplicit false
set_option genSizeOf false
set_option genInjectivity false
set_option linter.unusedSimpArgs false
set_option linter.unusedVariables false
namespace Mine
/-- the rule's answers -/
noncomputable def bl (N : Nat) : List Int := (List.range 16).map fun v => ((bt N v : Nat) : Int)
theorem rev_get {l : List UInt8} {q : Nat} (h : q < l.length) {c : UInt8} (hc : l.reverse[q]? = some c) : idxP (.byt l.toArray) (-1 - (q : Int)) = some (.int (c.toNat : Int)) ∨ ¬ (q < 4000) := by
  by_cases hq : q < 4000
  · left
    refine (if_pos (show -4096 ≤ (-1 - (q : Int)) ∧ (-1 - (q : Int)) < 4096 by omega)).trans ?_
    have e : seqIndex? (-1 - (q : Int)) l.toArray.size = some (l.length - 1 - q) := by
      have hneg : (if (-1 - (q : Int)) < 0 then (-1 - (q : Int)) + ((l.length : Nat) : Int) else -1 - (q : Int)) = ((l.length - 1 - q : Nat) : Int) := by
        rw [if_pos (by omega)]; omega
      unfold seqIndex?
      simp only [List.size_toArray]
      rw [hneg, if_pos (by simp; omega), Int.toNat_natCast]
    have e2 : l.toArray[l.length - 1 - q]? = some c := by
      rw [List.getElem?_toArray, ← List.getElem?_reverse h]
      exact hc
    exact bs (bs e e2) rfl
  · right; exact hq
theorem let_get {M q : Nat} (hM : M < 65536) (hq : q < 4) : idxP (.byt ([65, 65, 65, 65] ++ apL M).toArray) (-1 - (q : Int)) = some (.int ((65 + M / 16 ^ q % 16 : Nat) : Int)) := by
  have hr := apd_rev 399 M q (Nat.lt_trans hM (by decide +kernel))
  have hlen : q < (([65, 65, 65, 65] : List UInt8) ++ apL M).length := by rw [List.length_append]; exact Nat.lt_of_lt_of_le hq (Nat.le_add_right 4 _)
  have key : ∃ c : UInt8, (([65, 65, 65, 65] : List UInt8) ++ apL M).reverse[q]? = some c ∧ c.toNat = 65 + M / 16 ^ q % 16 := by
    rw [List.reverse_append]
    by_cases h : q < (apL M).reverse.length
    · refine ⟨(apL M).reverse[q], by rw [List.getElem?_append_left h, List.getElem?_eq_getElem h], ?_⟩
      rw [← hr]
      show _ = ((apL M).reverse.map UInt8.toNat).getD q 65
      rw [List.getD_eq_getElem?_getD, List.getElem?_map, List.getElem?_eq_getElem h]
      rfl
    · have hz : ((apL M).reverse.map UInt8.toNat).getD q 65 = 65 := by
        rw [List.getD_eq_getElem?_getD, List.getElem?_eq_none (by rw [List.length_map]; omega)]; rfl
      have hr' : ((apL M).reverse.map UInt8.toNat).getD q 65 = 65 + M / 16 ^ q % 16 := hr
      refine ⟨65, ?_, by rw [← hr', hz]; rfl⟩
      rw [List.getElem?_append_right (by omega)]
      have h4 : q - (apL M).reverse.length < 4 := by omega
      generalize q - (apL M).reverse.length = j at h4
      match j, h4 with
      | 0, _ => rfl
      | 1, _ => rfl
      | 2, _ => rfl
      | 3, _ => rfl
      | k + 4, h => omega
  obtain ⟨c, h1, h2⟩ := key
  rcases rev_get hlen h1 with h | h
  · rw [h, h2]
  · omega
theorem digit_bt (M v : Nat) (hv : v < 16) : (65 + M / 16 ^ (v / 4) % 16 - 65) / 2 ^ (v % 4) % 2 = bt M v := by
  have e1 : 65 + M / 16 ^ (v / 4) % 16 - 65 = M / 16 ^ (v / 4) % 16 := by omega
  have key : ∀ A r : Nat, r < 4 → A % 16 / 2 ^ r % 2 = A / 2 ^ r % 2 := fun A r hr => by
    have h : A % 16 = A % (2 ^ r * 2 ^ (4 - r)) := by rw [← Nat.pow_add, Nat.add_sub_cancel' (Nat.le_of_lt hr)]
    rw [h, Nat.mod_mul_right_div_self]
    exact Nat.mod_mod_of_dvd _ (Nat.pow_dvd_pow 2 (show 1 ≤ 4 - r by omega))
  have e2 : 16 ^ (v / 4) * 2 ^ (v % 4) = 2 ^ v := by
    rw [show (16 : Nat) = 2 ^ 4 from rfl, ← Nat.pow_mul, ← Nat.pow_add, Nat.div_add_mod]
  rw [e1, key _ _ (by omega), Nat.div_div_eq_div_mul, e2]
  rfl
theorem add_byt {a b : List UInt8} (h : a.length + b.length < 4096) : binP .Add (.byt a.toArray) (.byt b.toArray) = some (.byt (a ++ b).toArray) := (if_pos (room_ok h)).trans (congrArg (fun l => some (PV.byt l)) (Array.ext' (by simp)))
theorem bits_ev {Γ : Nat → List PV → Option PV} {ρ : PE} {z : PV} {v d : Nat} (g2 : ρ.get 2 = some (.int (v : Int))) (g1 : ρ.get 1 = some z) (hz : idxP z (-1 - ((v / 4 : Nat) : Int)) = some (.int ((65 + d : Nat) : Int))) :
    ev Γ (.bin .BitAnd (.bin .RShift (.bin .Sub (.idx (.var 1) (.bin .Sub (.neg (.lit (.int 1))) (.bin .FloorDiv (.var 2) (.lit (.int 4))))) (.lit (.int 65))) (.bin .Mod (.var 2) (.lit (.int 4)))) (.lit (.int 1))) ρ = some (.int (((65 + d - 65) / 2 ^ (v % 4) % 2 : Nat) : Int)) := by
  have a1 := div_nat (v := v) (g := 4) (by decide) (by decide)
  have a2 : binP .Mod (.int (v : Int)) (.int 4) = some (.int ((v % 4 : Nat) : Int)) := (mod_ok (b := 4) (by decide)).trans (congrArg (fun i => some (PV.int i)) (Int.fmod_eq_emod_of_nonneg _ (by decide)))
  have a3 : binP .Sub (.int ((65 + d : Nat) : Int)) (.int 65) = some (.int ((65 + d - 65 : Nat) : Int)) := congrArg (fun i => some (PV.int i)) (by omega)
  have a5 : binP .Sub (.int (-1)) (.int ((v / 4 : Nat) : Int)) = some (.int (-1 - ((v / 4 : Nat) : Int))) := rfl
  generalize 65 + d - 65 = m at *
  exact (e_bin (op := .BitAnd) (v' := .int 1) ((e_bin ((e_bin ((e_idx (e := .var 1) g1 ((e_bin rfl ((e_bin (e := .var 2) g2 rfl).trans a1)).trans a5)).trans hz) rfl).trans a3) ((e_bin (e := .var 2) g2 rfl).trans a2)).trans shr_nat) rfl).trans (congrArg (fun i => some (PV.int i)) (band1 _))
theorem g_bits {n M : Nat} (hM : M < 65536) : GG (n + 2) 10 [.int (M : Int)] = some (iL (bl M)) := by
  refine run_at ⟨[some (.int (M : Int)), none, none], none, none⟩ rfl rfl ?_
  refine Runs.assign (i := 1) (w := .byt ([65, 65, 65, 65] ++ apL M).toArray) ?_ rfl ?_
  · have h := g_ap (n := n) (x := (M : Int)) (by rw [Int.natAbs_natCast]; exact Nat.lt_trans hM (by decide +kernel))
    rw [Int.natAbs_natCast] at h
    have hl := apd_len 399 M
    exact (e_bin (op := .Add) (v := .byt ([65, 65, 65, 65] : List UInt8).toArray) rfl ((e_call1 rfl).trans h)).trans (add_byt (Nat.lt_of_le_of_lt (Nat.add_le_add_left hl 4) (by decide)))
  refine Runs.ret ?_
  refine (e_comp (g := fun v : Nat => .int ((bt M v : Nat) : Int)) (range_evN (k := 16) rfl (by decide)) fun v hv => ⟨_, rfl, ?_⟩).trans (by rw [bl, iL, List.map_map]; rfl)
  have hv' := List.mem_range.mp hv
  have h1 := let_get (M := M) (q := v / 4) hM (by omega)
  exact (bits_ev rfl rfl h1).trans (congrArg (fun i : Nat => some (PV.int i)) (digit_bt M v hv'))
end Mine
end

-- L19
section
open PySem
set_option maxRecDepth 100000
set_option autoImplicit false
set_option genSizeOf false
set_option genInjectivity false
set_option linter.unusedSimpArgs false
set_option linter.unusedVariables false
namespace Mine
noncomputable def sd (M v : Nat) : Int := sg v * (2 * ((bt M v : Nat) : Int) - 1)
noncomputable def much (M : Nat) : Int := ((List.range 16).map (sd M)).sum
noncomputable def SS (M : Nat) (x : Int) : Bool := decide (0 < sd M x.toNat * much M)
theorem sg_pm : ∀ v < 16, sg v = 1 ∨ sg v = -1 := by decide
theorem sd_pm {M v : Nat} (hv : v < 16) : sd M v = 1 ∨ sd M v = -1 := by
  unfold sd
  rcases sg_pm v hv with h | h <;> rcases bt_lt M v with h' | h' <;> rw [h, h'] <;> simp
theorem much_bsum (M : Nat) : much M = 2 * bsum M := by
  simp [much, bsum, sd, List.range_succ, sg]
  omega
theorem cnt {f : Nat → Int} : ∀ l : List Nat, (∀ x ∈ l, f x = 1 ∨ f x = -1) → ((l.filter fun x => decide (f x = 1)).length : Int) * 2 = l.length + (l.map f).sum ∧ ((l.filter fun x => decide (f x = -1)).length : Int) * 2 = l.length - (l.map f).sum
  | [], _ => ⟨rfl, rfl⟩
  | x :: l, h => by
    obtain ⟨h1, h2⟩ := cnt l fun y hy => h y (.tail _ hy)
    rcases h x (.head _) with e | e
    · simp [List.filter_cons, e]
      omega
    · simp [List.filter_cons, e]
      omega
theorem much_le (M : Nat) : (much M).natAbs ≤ 16 := by
  obtain ⟨h1, h2⟩ := cnt (f := sd M) (List.range 16) fun x hx => sd_pm (List.mem_range.mp hx)
  have l1 : ((List.range 16).filter fun x => decide (sd M x = 1)).length ≤ 16 := Nat.le_trans (List.length_filter_le ..) (by decide)
  have l2 : ((List.range 16).filter fun x => decide (sd M x = -1)).length ≤ 16 := Nat.le_trans (List.length_filter_le ..) (by decide)
  rw [List.length_range] at h1 h2
  unfold much
  omega
theorem SS_pos {M v : Nat} (hm : 0 < much M) (hv : v < 16) : SS M (v : Int) = decide (sd M v = 1) := by
  unfold SS
  rw [Int.toNat_natCast]
  rcases sd_pm (M := M) hv with h | h
  · rw [h]; simp [hm]
  · rw [h]; simp; omega
theorem SS_neg {M v : Nat} (hm : much M < 0) (hv : v < 16) : SS M (v : Int) = decide (sd M v = -1) := by
  unfold SS
  rw [Int.toNat_natCast]
  rcases sd_pm (M := M) hv with h | h
  · rw [h]; simp; omega
  · rw [h]; simp; omega
theorem SS_len (M : Nat) : ((rg 16).filter (SS M)).length = ((List.range 16).filter fun (v : Nat) => SS M (v : Int)).length := by
  rw [rg, List.filter_map, List.length_map]; rfl
theorem SS_count {M : Nat} (h : bsum M ≠ 0) : 9 ≤ ((rg 16).filter (SS M)).length := by
  obtain ⟨h1, h2⟩ := cnt (f := sd M) (List.range 16) fun x hx => sd_pm (List.mem_range.mp hx)
  rw [List.length_range] at h1 h2
  have hm := much_bsum M
  rw [SS_len]
  rcases Int.lt_or_gt_of_ne (show much M ≠ 0 by omega) with hn | hp
  · rw [List.filter_congr (q := fun v => decide (sd M v = -1)) fun v hv => SS_neg hn (List.mem_range.mp hv)]
    change _ = (16 : Nat) - much M at h2
    omega
  · rw [List.filter_congr (q := fun v => decide (sd M v = 1)) fun v hv => SS_pos hp (List.mem_range.mp hv)]
    change _ = (16 : Nat) + much M at h1
    omega
theorem bl_get {M v : Nat} (hv : v < 16) : (bl M).getD v 0 = ((bt M v : Nat) : Int) := by
  rw [bl, List.getD_eq_getElem?_getD, List.getElem?_map, List.getElem?_range hv]; rfl
theorem bl_len (M : Nat) : (bl M).length = 16 := by simp [bl]
theorem g_larger {n M : Nat} : GG (n + 2) 11 [iL (bl M)] = some (iL ((rg 16).filter (SS M))) := by
  refine run_at ⟨[some (iL (bl M)), none, none, none, none], none, none⟩ rfl rfl ?_
  refine Runs.assign (i := 1) (w := iL ((List.range 16).map (sd M))) ?_ rfl ?_
  · refine (e_comp (g := fun v : Nat => .int (sd M v)) (range_evN (k := 16) rfl (by decide)) fun v hv => ⟨_, rfl, ?_⟩).trans (by rw [iL, List.map_map]; rfl)
    have hv' := List.mem_range.mp hv
    have h2 := idx_getD (l := bl M) (c := v) (by rw [bl_len]; exact hv') (by rw [bl_len]; decide)
    rw [bl_get hv'] at h2
    have b3 := bt_lt M v
    have b4 : (sg v).natAbs ≤ 1 := by rcases sg_pm v hv' with h | h <;> rw [h] <;> decide
    have lt : ∀ {x : Int}, x.natAbs ≤ 1 → x.natAbs < 2 ^ 512 := fun h => Nat.lt_of_le_of_lt h (by decide)
    exact (e_bin (op := .Mult) ((e_call1 rfl).trans (g_sign hv')) ((e_bin (op := .Sub) (v' := .int 1) ((e_bin (op := .Mult) (v := .int 2) rfl ((e_idx rfl rfl).trans h2)).trans (mul_ok (by decide) (lt (by omega)))) rfl).trans rfl)).trans (mul_ok (lt b4) (lt (by omega)))
  refine Runs.assign (i := 2) (w := .int (much M)) ((e_bi1 (v := iL ((List.range 16).map (sd M))) rfl).trans (sum_ev (by simp))) rfl (Runs.ret ?_)
  refine (e_compIf (p := SS M) (g := PV.int) (range_ev (n := 16) rfl (by decide)) fun x hx => ⟨_, rfl, ?_, fun _ => rfl⟩).trans rfl
  obtain ⟨x0, x1⟩ := mem_rg.mp hx
  have hl : ((List.range 16).map (sd M)).length = 16 := by simp
  have h2 := idx_getD (l := (List.range 16).map (sd M)) (c := x.toNat) (by omega) (by omega)
  rw [show ((List.range 16).map (sd M)).getD x.toNat 0 = sd M x.toNat by rw [List.getD_eq_getElem?_getD, List.getElem?_map, List.getElem?_range (by omega)]; rfl, Int.toNat_of_nonneg x0] at h2
  have b1 : (sd M x.toNat).natAbs < 2 ^ 512 := Nat.lt_of_le_of_lt (m := 1) (by rcases sd_pm (M := M) (v := x.toNat) (by omega) with h | h <;> rw [h] <;> decide) (by decide)
  exact t_cmp (op := .Gt) (v' := .int 0) ((e_bin (op := .Mult) ((e_idx rfl rfl).trans h2) rfl).trans (mul_ok b1 (Nat.lt_of_le_of_lt (much_le M) (by decide)))) rfl rfl
end Mine
end

-- L20
section
open PySem
set_option maxRecDepth 100000
set_option autoImplicit false
set_option genSizeOf false
set_option genInjectivity false
set_option linter.unusedSimpArgs false
set_option linter.unusedVariables false
namespace Mine
/-- a spelling -/
noncomputable def sp (v : Nat) : Str := ⟨((List.range 4).map fun k => if v / 2 ^ k % 2 = 1 then 65 + k else 97 + k).toArray⟩
noncomputable def isTx (o : Option PV) (x : Str) : Bool := (o.bind PV.s?).any (· == x)
theorem isTx_eq {o : Option PV} {x : Str} (h : isTx o x = true) : o = some (.str x) := by
  cases o with
  | none => exact nomatch h
  | some v =>
    cases v with
    | str y => exact congrArg (fun z => some (PV.str z)) (eq_of_beq h)
    | _ => exact nomatch h
theorem spell_all (n : Nat) : ((List.range 16).all fun v => isTx (GG (n + 1) 20 [.int (v : Int)]) (sp v)) = true := by rfl
theorem g_spell {n v : Nat} (hv : v < 16) : GG (n + 1) 20 [.int (v : Int)] = some (.str (sp v)) := isTx_eq (List.all_eq_true.mp (spell_all n) v (List.mem_range.mpr hv))
noncomputable def co (t v : Nat) : Int := if t ^^^ v = 0 then 0 else if t ^^^ v = 1 ∨ t ^^^ v = 2 ∨ t ^^^ v = 4 ∨ t ^^^ v = 8 then 1 else 2
noncomputable def levT (t : Nat) : Bool := (List.range 16).all fun v => isI (GG 3 7 [.str (sp t), .str (sp v), .int 1]) (co t v)
theorem lev_0 : levT 0 = true := by decide +kernel
theorem lev_1 : levT 1 = true := by decide +kernel
theorem lev_2 : levT 2 = true := by decide +kernel
theorem lev_3 : levT 3 = true := by decide +kernel
theorem lev_4 : levT 4 = true := by decide +kernel
theorem lev_5 : levT 5 = true := by decide +kernel
theorem lev_6 : levT 6 = true := by decide +kernel
theorem lev_7 : levT 7 = true := by decide +kernel
theorem lev_8 : levT 8 = true := by decide +kernel
theorem lev_9 : levT 9 = true := by decide +kernel
theorem lev_10 : levT 10 = true := by decide +kernel
theorem lev_11 : levT 11 = true := by decide +kernel
theorem lev_12 : levT 12 = true := by decide +kernel
theorem lev_13 : levT 13 = true := by decide +kernel
theorem lev_14 : levT 14 = true := by decide +kernel
theorem lev_15 : levT 15 = true := by decide +kernel
theorem levT_all : ∀ t, t < 16 → levT t = true
  | 0, _ => lev_0
  | 1, _ => lev_1
  | 2, _ => lev_2
  | 3, _ => lev_3
  | 4, _ => lev_4
  | 5, _ => lev_5
  | 6, _ => lev_6
  | 7, _ => lev_7
  | 8, _ => lev_8
  | 9, _ => lev_9
  | 10, _ => lev_10
  | 11, _ => lev_11
  | 12, _ => lev_12
  | 13, _ => lev_13
  | 14, _ => lev_14
  | 15, _ => lev_15
  | k + 16, h => absurd h (by omega)
theorem g_lev {t v : Nat} (ht : t < 16) (hv : v < 16) : GG 3 7 [.str (sp t), .str (sp v), .int 1] = some (.int (co t v)) :=
  isI_eq (List.all_eq_true.mp (levT_all t ht) v (List.mem_range.mpr hv))
end Mine
end

-- L21
section
open PySem
set_option maxRecDepth 100000
set_option autoImplicit false
set_option genSizeOf false
set_option genInjectivity false
set_option linter.unusedSimpArgs false
set_option linter.unusedVariables false
namespace Mine
theorem co_sort : ∀ t, t < 16 → sortP ((List.range 16).map (co t)) = [0, 1, 1, 1, 1, 2, 2, 2, 2, 2, 2, 2, 2, 2, 2, 2] := by
  intro t ht
  have := all16 (p := fun t => decide (sortP ((List.range 16).map (co t)) = [0, 1, 1, 1, 1, 2, 2, 2, 2, 2, 2, 2, 2, 2, 2, 2])) (by decide +kernel) ht
  exact of_decide_eq_true this
theorem sort_ev {l : List Int} (h : l.length < 64) : biP .sorted [iL l] = some (iL (sortP l)) := show (intsOf _).bind _ = _ from bs (intsOf_iL l) (if_pos h)
theorem g_near {t : Nat} {l : List Int} (ht : t < 16) (hl : ∀ x ∈ l, 0 ≤ x ∧ x < 16) (hlen : l.length < 4096) : GG 4 21 [.int (t : Int), iL l] = some (iL (l.filter fun x => co t x.toNat == 1)) := by
  refine run_at ⟨[some (.int (t : Int)), some (iL l), none, none, none, none], none, none⟩ rfl rfl ?_
  refine Runs.assign (i := 2) (w := .str (sp t)) ((e_call1 rfl).trans (g_spell (n := 2) ht)) rfl ?_
  refine Runs.assign (i := 3) (w := iL ((List.range 16).map (co t))) ((e_comp (g := fun v : Nat => .int (co t v)) (range_evN (k := 16) rfl (by decide)) fun v hv => ⟨_, rfl, (e_call (e_more rfl (e_more ((e_call1 rfl).trans (g_spell (n := 2) (List.mem_range.mp hv))) (e_list1 rfl)))).trans (g_lev ht (List.mem_range.mp hv))⟩).trans (by rw [iL, List.map_map]; rfl)) rfl ?_
  have hcl : ((List.range 16).map (co t)).length = 16 := by simp
  have hs : biP .sorted [iL ((List.range 16).map (co t))] = some (iL [0, 1, 1, 1, 1, 2, 2, 2, 2, 2, 2, 2, 2, 2, 2, 2]) :=
    (sort_ev (by rw [hcl]; decide)).trans (congrArg (fun z => some (iL z)) (co_sort t ht))
  refine Runs.next (ρ' := ⟨[some (.int (t : Int)), some (iL l), some (.str (sp t)), some (iL ((List.range 16).map (co t))), none, none], none, none⟩) (ex_ife (t := false) (t_cmp (op := .NotEq) (v' := iL [0, 1, 1, 1, 1, 2, 2, 2, 2, 2, 2, 2, 2, 2, 2, 2]) ((e_bi1 rfl).trans hs) rfl rfl) rfl) (Runs.ret ?_)
  refine (e_compIf (p := fun x => co t x.toNat == 1) (g := PV.int) (e_items rfl (items_lst (by rw [List.length_map]; exact hlen))) fun x hx => ⟨_, rfl, ?_, fun _ => rfl⟩).trans rfl
  obtain ⟨x0, x1⟩ := hl x hx
  have h2 := idx_getD (l := (List.range 16).map (co t)) (c := x.toNat) (by omega) (by omega)
  rw [show ((List.range 16).map (co t)).getD x.toNat 0 = co t x.toNat by rw [List.getD_eq_getElem?_getD, List.getElem?_map, List.getElem?_range (by omega)]; rfl, Int.toNat_of_nonneg x0] at h2
  exact t_cmp (op := .Eq) (v' := .int 1) ((e_idx rfl rfl).trans h2) rfl rfl
end Mine
end

-- L22
section
open PySem
set_option maxRecDepth 100000
set_option autoImplicit false
set_option genSizeOf false
set_option genInjectivity false
set_option linter.unusedSimpArgs false
set_option linter.unusedVariables false
namespace Mine
theorem bxor_nat {v u : Nat} (hv : v < 16) (hu : u < 16) : Builtin.bitXor (v : Int) (u : Int) = ((v ^^^ u : Nat) : Int) := by
  have h := g_xor' (n := 0) hv hu
  have h2 := g_xor (n := 0) (a := (v : Int)) (b := (u : Int))
  rw [h] at h2
  injection h2 with h2
  injection h2 with h2
  exact h2.symm
/-- one of the four steps -/
noncomputable def st (v T : Nat) : Bool := ([1, 2, 4, 8] : List Int).any (· == ((v ^^^ T : Nat) : Int))
theorem co_st {T v : Nat} (hT : T < 16) (hv : v < 16) : (co T v == 1) = st v T := by
  have h := all16 (p := fun T => (List.range 16).all fun v => (co T v == 1) == st v T) (by decide +kernel) hT
  exact eq_of_beq (all16 h hv)
theorem st_sg {T v : Nat} (hT : T < 16) (hv : v < 16) (h : st v T = true) : sg v = -sg T := by
  have h1 := all16 (p := fun T => (List.range 16).all fun v => !st v T || decide (sg v = -sg T)) (by decide +kernel) hT
  have h2 := all16 h1 hv
  rw [h] at h2
  simpa using h2
theorem SS_step {M T v : Nat} (hT : T < 16) (hv : v < 16) (h : st v T = true) (hS : SS M (T : Int) = true) : SS M (v : Int) = (bt M v != bt M T) := by
  have hs := st_sg hT hv h
  unfold SS at hS ⊢
  rw [Int.toNat_natCast] at hS ⊢
  have hS' := of_decide_eq_true hS
  have hneg : -sg T * much M = -(sg T * much M) := Int.neg_mul _ _
  unfold sd at hS' ⊢
  rw [hs]
  rcases bt_lt M v with a | a <;> rcases bt_lt M T with b | b <;> rw [b] at hS' ⊢ <;> rw [a] <;> simp at hS' ⊢ <;> omega
theorem near_felt {M T : Nat} (hT : T < 16) (hS : SS M (T : Int) = true) : ((rg 16).filter (SS M)).filter (fun x => co T x.toNat == 1) = (rg 16).filter fun x => st x.toNat T && (bt M x.toNat != bt M T) := by
  rw [List.filter_filter]
  refine List.filter_congr fun x hx => ?_
  obtain ⟨x0, x1⟩ := mem_rg.mp hx
  have hv : x.toNat < 16 := by omega
  rw [co_st hT hv]
  cases h : st x.toNat T with
  | false => rfl
  | true =>
    have := SS_step hT hv h hS
    rw [Int.toNat_of_nonneg x0] at this
    rw [this]
theorem one_only {α : Type} {l : List α} {x y : α} (h : l.length ≤ 1) (hx : x ∈ l) (hy : y ∈ l) : x = y := by
  match l, h with
  | [a], _ => rw [List.mem_singleton.mp hx, List.mem_singleton.mp hy]
theorem four {p q r s : Int} {b : Nat} (h1 : p = 0 ∨ q = 0) (h2 : p = 0 ∨ r = 0) (h3 : p = 0 ∨ s = 0) (h4 : q = 0 ∨ r = 0) (h5 : q = 0 ∨ s = 0) (h6 : r = 0 ∨ s = 0) (b1 : p.natAbs ≤ b) (b2 : q.natAbs ≤ b) (b3 : r.natAbs ≤ b) (b4 : s.natAbs ≤ b) : (p + (q + (r + s))).natAbs ≤ b := by
  by_cases hp : p = 0
  · rw [hp, Int.zero_add]
    by_cases hq : q = 0
    · rw [hq, Int.zero_add]
      rcases h6 with h | h
      · rw [h, Int.zero_add]; exact b4
      · rw [h, Int.add_zero]; exact b3
    · rw [h4.resolve_left hq, h5.resolve_left hq, Int.add_zero, Int.add_zero]; exact b2
  · rw [h1.resolve_left hp, h2.resolve_left hp, h3.resolve_left hp, Int.add_zero, Int.add_zero, Int.add_zero]; exact b1
theorem near_two {M T : Nat} {vec : List Int} (hV : VecOk (SS M) vec) (hT : T < 16) (h0 : vec.getD T 0 ≠ 0) (hmax : ∀ v < 16, (vec.getD v 0).natAbs ≤ (vec.getD T 0).natAbs) :
    1 < (((rg 16).filter (SS M)).filter fun x => co T x.toNat == 1).length := by
  refine Nat.lt_of_not_le fun hle => ?_
  have mem : ∀ g ∈ ([1, 2, 4, 8] : List Nat), vec.getD (T ^^^ g) 0 ≠ 0 → ((T ^^^ g : Nat) : Int) ∈ ((rg 16).filter (SS M)).filter fun x => co T x.toNat == 1 := fun g hg h => by
    have hg16 : g < 16 := by
      have : g = 1 ∨ g = 2 ∨ g = 4 ∨ g = 8 := by simpa using hg
      omega
    have hx : T ^^^ g < 16 := xor_lt (k := 4) hT hg16
    refine List.mem_filter.mpr ⟨List.mem_filter.mpr ⟨mem_rg.mpr ⟨by omega, by omega⟩, hV.sup _ hx h⟩, ?_⟩
    rw [Int.toNat_natCast]
    have := all16 (p := fun T => ([1, 2, 4, 8] : List Nat).all fun g => co T (T ^^^ g) == 1) (by decide +kernel) hT
    exact List.all_eq_true.mp this g hg
  have two : ∀ g ∈ ([1, 2, 4, 8] : List Nat), ∀ g' ∈ ([1, 2, 4, 8] : List Nat), g ≠ g' → vec.getD (T ^^^ g) 0 = 0 ∨ vec.getD (T ^^^ g') 0 = 0 := fun g hg g' hg' hne => by
    by_cases a : vec.getD (T ^^^ g) 0 = 0
    · exact .inl a
    · by_cases b : vec.getD (T ^^^ g') 0 = 0
      · exact .inr b
      · have := one_only hle (mem g hg a) (mem g' hg' b)
        have h1 := all16 (p := fun T => ([1, 2, 4, 8] : List Nat).all fun g => ([1, 2, 4, 8] : List Nat).all fun g' => decide (g = g') || decide (T ^^^ g ≠ T ^^^ g')) (by decide +kernel) hT
        have h2 := List.all_eq_true.mp (List.all_eq_true.mp h1 g hg) g' hg'
        rw [decide_eq_false hne, Bool.false_or] at h2
        exact absurd (Int.ofNat.inj this) (of_decide_eq_true h2)
  have e := hV.eig T hT
  unfold aro at e
  have hb : ∀ g ∈ ([1, 2, 4, 8] : List Nat), ∀ k, (sg k * vec.getD (T ^^^ g) 0).natAbs ≤ (vec.getD T 0).natAbs := fun g hg k => by
    have hg16 : g < 16 := by
      have : g = 1 ∨ g = 2 ∨ g = 4 ∨ g = 8 := by simpa using hg
      omega
    rw [Int.natAbs_mul]
    have := hmax (T ^^^ g) (xor_lt (k := 4) hT hg16)
    exact Nat.le_trans (Nat.mul_le_mul (sg_abs k) this) (by rw [Nat.one_mul]; exact Nat.le_refl _)
  have b1 := hb 1 (by simp) (T / 2)
  have b2 := hb 2 (by simp) (T / 4)
  have b3 := hb 4 (by simp) (T / 8)
  have b4 := hb 8 (by simp) (T / 16)
  have z : ∀ k x, x = 0 → sg k * x = 0 := fun k x h => by rw [h, Int.mul_zero]
  have t12 := (two 1 (by simp) 2 (by simp) (by decide)).imp (z (T / 2) _) (z (T / 4) _)
  have t14 := (two 1 (by simp) 4 (by simp) (by decide)).imp (z (T / 2) _) (z (T / 8) _)
  have t18 := (two 1 (by simp) 8 (by simp) (by decide)).imp (z (T / 2) _) (z (T / 16) _)
  have t24 := (two 2 (by simp) 4 (by simp) (by decide)).imp (z (T / 4) _) (z (T / 8) _)
  have t28 := (two 2 (by simp) 8 (by simp) (by decide)).imp (z (T / 4) _) (z (T / 16) _)
  have t48 := (two 4 (by simp) 8 (by simp) (by decide)).imp (z (T / 8) _) (z (T / 16) _)
  have := four t12 t14 t18 t24 t28 t48 b1 b2 b3 b4
  rw [e, Int.natAbs_mul] at this
  refine Nat.not_lt.mpr this ?_
  show _ < 2 * _
  rw [Nat.two_mul]
  exact Nat.lt_add_of_pos_left (Int.natAbs_pos.mpr h0)
theorem maxPairs_spec : ∀ (l : List (Int × Int)) (m : Int × Int), maxPairs m l ∈ m :: l ∧ ∀ x ∈ m :: l, x.1 ≤ (maxPairs m l).1
  | [], m => ⟨.head _, fun x hx => by rw [List.mem_singleton.mp hx]; exact Int.le_refl _⟩
  | y :: l, m => by
    rw [maxPairs]
    obtain ⟨h1, h2⟩ := maxPairs_spec l (if lexLt m y then y else m)
    have hm : m.1 ≤ (if lexLt m y then y else m).1 ∧ y.1 ≤ (if lexLt m y then y else m).1 := by
      unfold lexLt
      by_cases a : m.1 < y.1
      · simp [a]; omega
      · by_cases b : m.1 = y.1
        · simp only [b]
          split <;> omega
        · have : (decide (m.1 < y.1) || (m.1 == y.1 && decide (m.2 < y.2))) = false := by simp [a, b]
          rw [this]
          simp; omega
    have hh := h2 _ (.head _)
    refine ⟨?_, fun x hx => ?_⟩
    · rcases List.mem_cons.mp h1 with h | h
      · rw [h]
        split
        · exact .tail _ (.head _)
        · exact .head _
      · exact .tail _ (.tail _ h)
    · rcases List.mem_cons.mp hx with rfl | hx
      · omega
      · rcases List.mem_cons.mp hx with rfl | hx
        · omega
        · exact h2 x (.tail _ hx)
theorem pairsOf_mk {α : Type} (f g : α → Int) : ∀ l : List α, pairsOf (l.map fun v => .tup [.int (f v), .int (g v)]) = some (l.map fun v => (f v, g v))
  | [] => rfl
  | v :: l => by
    show (pairsOf (l.map fun v => .tup [.int (f v), .int (g v)])).bind _ = _
    rw [pairsOf_mk f g l]
    rfl
theorem enumP_range : ∀ (l : List Int) (k : Nat), enumP k (l.map .int) = (List.range l.length).map fun (i : Nat) => PV.tup [.int ((k + i : Nat) : Int), .int (l.getD i 0)]
  | [], k => rfl
  | x :: l, k => by
    rw [List.map_cons, enumP, enumP_range l (k + 1), List.length_cons, List.range_succ_eq_map, List.map_cons, List.map_map]
    congr 1
    refine List.map_congr_left fun i _ => ?_
    show PV.tup [.int ((k + 1 + i : Nat) : Int), .int (l.getD i 0)] = PV.tup [.int ((k + (i + 1) : Nat) : Int), .int ((x :: l).getD (i + 1) 0)]
    rw [List.getD_cons_succ, show k + 1 + i = k + (i + 1) by omega]
theorem enum16 {vec : List Int} (hl : vec.length = 16) : enumP 0 (vec.map .int) = (List.range 16).map fun (v : Nat) => PV.tup [.int (v : Int), .int (vec.getD v 0)] := by
  rw [enumP_range, hl]
  refine List.map_congr_left fun i _ => ?_
  rw [Nat.zero_add]
end Mine
end

-- L23
section
open PySem
set_option maxRecDepth 100000
set_option autoImplicit false
set_option genSizeOf false
set_option genInjectivity false
set_option linter.unusedSimpArgs false
set_option linter.unusedVariables false
namespace Mine
section
variable {Γ : Nat → List PV → Option PV} {ρ : PE} {e e' e'' : E}
theorem e_and2 {a b : Bool} (h : ev Γ e ρ = some (.bool a)) (h' : ev Γ e' ρ = some (.bool b)) : ev Γ (.boolop .And (.cons e (.cons e' .nil))) ρ = some (.bool (a && b)) := show (ev Γ e ρ).bind _ = _ from bs h (by cases a <;> first | rfl | exact h')
theorem e_and3 {a b c : Bool} (h : ev Γ e ρ = some (.bool a)) (h' : ev Γ e' ρ = some (.bool b)) (h'' : ev Γ e'' ρ = some (.bool c)) : ev Γ (.boolop .And (.cons e (.cons e' (.cons e'' .nil)))) ρ = some (.bool (a && (b && c))) := show (ev Γ e ρ).bind _ = _ from bs h (by cases a <;> first | rfl | exact (e_and2 h' h'' :))
theorem e_or3 {a b c : Bool} (h : ev Γ e ρ = some (.bool a)) (h' : ev Γ e' ρ = some (.bool b)) (h'' : ev Γ e'' ρ = some (.bool c)) : ev Γ (.boolop .Or (.cons e (.cons e' (.cons e'' .nil)))) ρ = some (.bool (a || (b || c))) := show (ev Γ e ρ).bind _ = _ from bs h (by
  cases a
  · exact show (ev Γ e' ρ).bind _ = _ from bs h' (by cases b <;> first | rfl | exact h'')
  · rfl)
end
noncomputable abbrev LF (a0 a1 a2 a3 a4 a5 a6 a7 a8 a9 : Option PV) : PE := ⟨[a0, a1, a2, a3, a4, a5, a6, a7, a8, a9, none, none, none, none, none, none, none], none, none⟩
noncomputable abbrev lNum : E := .bin .Mod (.bin .Add (.lit (.int 63624)) (.bi .sum (.cons (.comp (.bin .Mod (.var 10) (.lit (.int 1000000))) (.one (Str.ofString "x") 10) (.exp (.slHi (.var 0) (.lit (.int 12))))) .nil))) (.lit (.int 65536))
theorem num_ev {Γ : Nat → List PV → Option PV} {ns : List Int} (hl : ns.length ≤ 63) : ∃ N : Nat, N < 65536 ∧ ev Γ lNum (LF (some (iL ns)) none none none none none none none none none) = some (.int (N : Int)) := by
  have hr : ns.length < 4096 := Nat.lt_of_le_of_lt hl (by decide)
  have hlen : (cutP none (some 12) ns).length < 4096 := by
    unfold cutP
    rw [List.length_take, List.length_drop]; omega
  have hcut : slP (iL ns) none (some 12) = some (iL (cutP none (some 12) ns)) :=
    (if_pos (room_ok (by rw [List.length_map]; exact hr))).trans (congrArg (fun l => some (PV.lst l)) (by simp [cutP]))
  have hs := (e_bi1 (b := .sum) ((e_comp (e := .bin .Mod (.var 10) (.lit (.int 1000000))) (tg := .one (Str.ofString "x") 10) (inj := .int) (g := fun x => .int (Int.fmod x 1000000)) (e_items (l := (cutP none (some 12) ns).map .int) (show ev Γ (.slHi (.var 0) (.lit (.int 12))) (LF (some (iL ns)) none none none none none none none none none) = _ from hcut) (items_lst (by rw [List.length_map]; exact hlen))) fun x _ => ⟨_, rfl, (e_bin (op := .Mod) (e := .var 10) (e' := .lit (.int 1000000)) (v := .int x) (v' := .int 1000000) rfl rfl).trans (mod_ok (by decide))⟩).trans (show _ = some (iL ((cutP none (some 12) ns).map fun x => Int.fmod x 1000000)) by rw [iL, List.map_map]; rfl))).trans (sum_ev (by rw [List.length_map]; exact hlen))
  generalize ((cutP none (some 12) ns).map fun x => Int.fmod x 1000000).sum = z at hs
  have h0 := Int.fmod_nonneg_of_pos (63624 + z) (b := 65536) (by decide)
  have h1 := Int.fmod_lt_of_pos (63624 + z) (b := 65536) (by decide)
  refine ⟨(Int.fmod (63624 + z) 65536).toNat, by omega, ?_⟩
  rw [Int.toNat_of_nonneg h0]
  exact (e_bin (op := .Mod) (v' := .int 65536) ((e_bin (op := .Add) (v := .int 63624) rfl hs).trans rfl) rfl).trans rfl
theorem max_pairs {xs : List PV} {p : Int × Int} {r : List (Int × Int)} (h : pairsOf xs = some (p :: r)) (hl : (p :: r).length < 4096) : biP .max [.lst xs] = some (.tup [.int (maxPairs p r).1, .int (maxPairs p r).2]) := show (pairsOf xs).bind _ = _ from bs h (if_pos (room_ok hl))
noncomputable abbrev lTop : E := .neg (.idx (.bi .max (.cons (.comp (.tup (.cons (.bi .max (.cons (.var 13) (.cons (.neg (.var 13)) .nil))) (.cons (.neg (.var 12)) .nil))) (.two (Str.ofString "v") 12 (Str.ofString "n") 13) (.enum (.var 6))) .nil)) (.lit (.int 1)))
theorem top_ev {Γ : Nat → List PV → Option PV} {a0 a1 a2 a3 a4 a5 : Option PV} {vec : List Int} (hl : vec.length = 16) :
    ∃ T : Nat, T < 16 ∧ (∀ v < 16, (vec.getD v 0).natAbs ≤ (vec.getD T 0).natAbs) ∧ ev Γ lTop (LF a0 a1 a2 a3 a4 a5 (some (iL vec)) none none none) = some (.int (T : Int)) := by
  have hi : evS Γ (.enum (.var 6)) (LF a0 a1 a2 a3 a4 a5 (some (iL vec)) none none none) = some ((List.range 16).map fun (v : Nat) => PV.tup [.int (v : Int), .int (vec.getD v 0)]) :=
    (if_pos (room_ok (by rw [List.length_map, hl]; decide))).trans (congrArg some (enum16 hl))
  have hm : ∀ a : Int, biP .max [.int a, .int (-a)] = some (.int (a.natAbs : Int)) := fun a => congrArg (fun i => some (PV.int i)) (show (if a < -a then -a else a) = (a.natAbs : Int) by split <;> omega)
  have hc := e_comp (e := .tup (.cons (.bi .max (.cons (.var 13) (.cons (.neg (.var 13)) .nil))) (.cons (.neg (.var 12)) .nil))) (tg := .two (Str.ofString "v") 12 (Str.ofString "n") 13) (g := fun v : Nat => .tup [.int ((vec.getD v 0).natAbs : Int), .int (-(v : Int))]) hi fun v _ => ⟨_, rfl, e_tup (e_more ((e_bi (e_more rfl (e_list1 rfl))).trans (hm _)) (e_list1 rfl))⟩
  obtain ⟨p, r, e⟩ : ∃ p r, ((List.range 16).map fun (v : Nat) => (((vec.getD v 0).natAbs : Int), (-(v : Int)))) = p :: r := ⟨_, _, rfl⟩
  obtain ⟨m1, m2⟩ := maxPairs_spec r p
  have hmx := max_pairs (e ▸ pairsOf_mk (fun v : Nat => ((vec.getD v 0).natAbs : Int)) (fun v : Nat => -(v : Int)) (List.range 16)) (by rw [← e, List.length_map]; decide)
  rw [← e] at m1 m2
  obtain ⟨T, hT, hq⟩ := List.mem_map.mp m1
  refine ⟨T, List.mem_range.mp hT, fun v hv => ?_, ?_⟩
  · have := m2 _ (List.mem_map.mpr ⟨v, List.mem_range.mpr hv, rfl⟩)
    rw [← hq] at this
    exact Int.ofNat_le.mp this
  · refine (e_neg ((e_idx (x := 1) ((e_bi1 (b := .max) hc).trans hmx) rfl).trans rfl)).trans ?_
    rw [← hq]
    exact congrArg (fun i => some (PV.int i)) (Int.neg_neg _)
noncomputable abbrev lFelt : E := .compIf (.var 14) (.one (Str.ofString "v") 14) (.range (.cons (.lit (.int 16)) .nil)) (.boolop .And (.cons (.cmp .In (.bin .BitXor (.var 14) (.var 7)) (.tup (.cons (.lit (.int 1)) (.cons (.lit (.int 2)) (.cons (.lit (.int 4)) (.cons (.lit (.int 8)) .nil)))))) (.cons (.cmp .NotEq (.idx (.var 2) (.var 14)) (.idx (.var 2) (.var 7))) .nil)))
theorem felt_ev {Γ : Nat → List PV → Option PV} {a0 a1 a3 a4 a5 a6 a8 : Option PV} {M T : Nat} (hT : T < 16) : ev Γ lFelt (LF a0 a1 (some (iL (bl M))) a3 a4 a5 a6 (some (.int (T : Int))) a8 none) = some (iL ((rg 16).filter fun x => st x.toNat T && (bt M x.toNat != bt M T))) := by
  refine (e_compIf (p := fun x => st x.toNat T && (bt M x.toNat != bt M T)) (g := PV.int) (range_ev (n := 16) rfl (by decide)) fun x hx => ⟨_, rfl, ?_, fun _ => rfl⟩).trans rfl
  obtain ⟨x0, x1⟩ := mem_rg.mp hx
  have hv : x.toNat < 16 := by omega
  have hbx := bxor_nat hv hT
  have h2 := idx_getD (l := bl M) (c := x.toNat) (by rw [bl_len]; exact hv) (by rw [bl_len]; decide)
  have h3 := idx_getD (l := bl M) (c := T) (by rw [bl_len]; exact hT) (by rw [bl_len]; decide)
  rw [bl_get hv, Int.toNat_of_nonneg x0] at h2
  rw [bl_get hT] at h3
  rw [Int.toNat_of_nonneg x0] at hbx
  have hne : cmpP .NotEq (.int ((bt M x.toNat : Nat) : Int)) (.int ((bt M T : Nat) : Int)) = some (bt M x.toNat != bt M T) := by
    rcases bt_lt M x.toNat with a | a <;> rcases bt_lt M T with b | b <;> rw [a, b] <;> rfl
  exact bs (e_and2 (e_cmp (op := .In) (v' := .tup [.int 1, .int 2, .int 4, .int 8]) ((e_bin (op := .BitXor) (e := .var 14) (e' := .var 7) (v := .int x) (v' := .int (T : Int)) rfl rfl).trans (congrArg (fun i => some (PV.int i)) hbx)) rfl rfl) (e_cmp (op := .NotEq) ((e_idx rfl rfl).trans h2) ((e_idx rfl rfl).trans h3) hne)) rfl
noncomputable abbrev lOff : E := .compIf (.var 15) (.one (Str.ofString "v") 15) (.range (.cons (.lit (.int 16)) .nil)) (.boolop .And (.cons (.cmp .NotEq (.idx (.var 6) (.var 15)) (.lit (.int 0))) (.cons (.cmp .NotIn (.var 15) (.var 4)) .nil)))
theorem off_ev {Γ : Nat → List PV → Option PV} {a0 a1 a2 a3 a5 a7 a8 a9 : Option PV} {S : Int → Bool} {vec : List Int} (hl : vec.length = 16) (hs : ∀ v : Nat, v < 16 → vec.getD v 0 ≠ 0 → S (v : Int) = true) : ev Γ lOff (LF a0 a1 a2 a3 (some (iL ((rg 16).filter S))) a5 (some (iL vec)) a7 a8 a9) = some (iL []) := by
  refine (e_compIf (p := fun _ => false) (g := PV.int) (range_ev (n := 16) rfl (by decide)) fun x hx => ⟨_, rfl, ?_, fun _ => rfl⟩).trans (by simp)
  obtain ⟨x0, x1⟩ := mem_rg.mp hx
  have h2 := idx_getD (l := vec) (c := x.toNat) (by omega) (by omega)
  rw [Int.toNat_of_nonneg x0] at h2
  have hn := notin_ev (x := x) (filter_small S (n := 16) (by decide))
  rw [any_filter hx] at hn
  refine bs (e_and2 (e_cmp (op := .NotEq) (v' := .int 0) ((e_idx (e := .var 6) rfl rfl).trans h2) rfl rfl) (e_cmp (op := .NotIn) (e := .var 15) (e' := .var 4) rfl rfl hn)) ?_
  cases h : vec.getD x.toNat 0 != 0 with
  | false => rfl
  | true =>
    have := hs x.toNat (by omega) (bne_iff_ne.mp h)
    rw [Int.toNat_of_nonneg x0] at this
    rw [this]; rfl
theorem ls_self {l : List Int} {f : List Int → List Int → Bool} (h : l.length < 4096) : lsls (iL l) (iL l) f = some (f l l) := by
  show (intsOf (l.map .int)).bind _ = _
  refine bs (intsOf_iL l) ?_
  show (intsOf (l.map .int)).bind _ = _
  exact bs (intsOf_iL l) (if_pos (by rw [room_ok h]; rfl))
theorem ne_self {l : List Int} (h : l.length < 4096) : cmpP .NotEq (iL l) (iL l) = some false := (ls_self (f := fun a b => !decide (a = b)) h).trans (by rw [decide_eq_true rfl]; rfl)
theorem eq_self {l : List Int} (h : l.length < 4096) : cmpP .Eq (iL l) (iL l) = some true := (ls_self (f := fun a b => decide (a = b)) h).trans (by rw [decide_eq_true rfl])
end Mine
end

-- L24
section
open PySem
set_option maxRecDepth 100000
set_option autoImplicit false
set_option genSizeOf false
set_option genInjectivity false
set_option linter.unusedSimpArgs false
set_option linter.unusedVariables false
namespace Mine
theorem pure_law (ns : List Int) (hns : ns.length ≤ 63) : GG 5 22 [.lst (ns.map .int)] = some (.bool true) := by
  obtain ⟨N, hN, hnum⟩ := num_ev (Γ := GG 4) hns
  have hM := full_lt hN
  have hsum := full_sum N
  have hfull := g_full (n := 2) (N := N)
  generalize full N = M at hM hsum hfull
  obtain ⟨vec, hvec, V⟩ := g_vector (n := 0) (SS_count hsum)
  obtain ⟨T, hT, hmax, htop⟩ := top_ev (Γ := GG 4) (a0 := some (iL ns)) (a1 := some (.int (M : Int))) (a2 := some (iL (bl M))) (a3 := some (iL (bl M))) (a4 := some (iL ((rg 16).filter (SS M)))) (a5 := some (iL vec)) V.len
  have hv0 : vec.getD T 0 ≠ 0 := fun h => by
    obtain ⟨x, hx, hx0⟩ := V.ne
    obtain ⟨i, hi, rfl⟩ := List.getElem_of_mem hx
    have := hmax i (by rw [← V.len]; exact hi)
    rw [h, List.getD_eq_getElem?_getD, List.getElem?_eq_getElem hi] at this
    simp at this
    exact hx0 this
  have hST := V.sup T hT hv0
  have hnf := near_felt (M := M) hT hST
  have htwo := near_two V hT hv0 hmax
  have hbl : (bl M).length < 4096 := by rw [bl_len]; decide
  have hvl : vec.length < 4096 := by rw [V.len]; decide
  refine run_at (LF (some (iL ns)) none none none none none none none none none) rfl rfl ?_
  refine Runs.assign (i := 1) (w := .int (M : Int)) ((e_call1 hnum).trans hfull) rfl ?_
  refine Runs.assign (i := 2) (w := iL (bl M)) ((e_comp (g := fun v : Nat => .int ((bt M v : Nat) : Int)) (range_evN (k := 16) rfl (by decide)) fun v _ => ⟨_, rfl, bit_ev (N := M) (v := v) rfl rfl⟩).trans (by rw [bl, iL, List.map_map]; rfl)) rfl ?_
  refine Runs.assign (i := 3) (w := iL (bl M)) ((e_call1 rfl).trans (g_bits (n := 2) hM)) rfl ?_
  refine Runs.assign (i := 4) (w := iL ((rg 16).filter (SS M))) ((e_call1 rfl).trans (g_larger (n := 2))) rfl ?_
  refine Runs.assign (i := 5) (w := iL vec) ((e_call1 rfl).trans hvec) rfl ?_
  have hb399 : ∀ x ∈ vec, x.natAbs < 16 ^ 399 := fun x hx => Nat.lt_of_le_of_lt (V.bd x hx) (by decide +kernel)
  have hbook := g_book (n := 2) (vec := vec) (by rw [V.len]; decide) hb399
  refine Runs.assign (i := 6) (w := iL vec) ((e_call1 ((e_call1 rfl).trans hbook)).trans (g_told (n := 1) V.len V.bd)) rfl ?_
  refine Runs.assign (i := 7) (w := .int (T : Int)) htop rfl ?_
  have hmem : ∀ x ∈ (rg 16).filter (SS M), 0 ≤ x ∧ x < 16 := fun x hx => mem_rg.mp (List.mem_filter.mp hx).1
  have hnear := g_near (t := T) (l := (rg 16).filter (SS M)) hT hmem (filter_small _ (by decide))
  rw [hnf] at hnear htwo
  refine Runs.assign (i := 8) ((e_call2 rfl rfl).trans hnear) rfl ?_
  refine Runs.assign (i := 9) (felt_ev hT) rfl ?_
  have hfl : ((rg 16).filter fun x => st x.toNat T && (bt M x.toNat != bt M T)).length < 4096 := filter_small _ (by decide)
  generalize ((rg 16).filter fun x => st x.toNat T && (bt M x.toNat != bt M T)) = nf at hfl htwo
  refine Runs.next (ρ' := LF (some (iL ns)) (some (.int (M : Int))) (some (iL (bl M))) (some (iL (bl M))) (some (iL ((rg 16).filter (SS M)))) (some (iL vec)) (some (iL vec)) (some (.int (T : Int))) (some (iL nf)) (some (iL nf)))
    (ex_ife (t := false) (bs (e_or3 (e_cmp (op := .NotEq) rfl rfl (ne_self hbl)) (e_cmp (op := .NotEq) rfl rfl (ne_self hvl)) (e_cmp (op := .NotEq) (v' := iL []) (off_ev V.len V.sup) rfl (ne_self (by decide)))) rfl) rfl) (Runs.ret ?_)
  have hdbl : (List.range 16).map (aro vec) = vec.map fun x => 2 * x := by
    have h2 := list_getD vec
    rw [V.len] at h2
    conv => rhs; rw [← h2]
    rw [List.map_map]
    exact List.map_congr_left fun v hv => V.eig v (List.mem_range.mp hv)
  have hard := g_around (n := 2) V.len V.bd
  rw [hdbl] at hard
  have hml : (vec.map fun x => 2 * x).length < 4096 := by rw [List.length_map]; exact hvl
  refine (e_and3 (e_cmp (op := .Eq) ((e_call1 rfl).trans hard) ((e_comp (inj := .int) (g := fun x => .int (2 * x)) (e_items rfl (items_lst (by rw [List.length_map]; exact hvl))) fun x hx => ⟨_, rfl, (e_bin (op := .Mult) (e := .lit (.int 2)) (v := .int 2) rfl rfl).trans (mul_ok (by decide) (pow512 (by decide) (V.bd x hx)))⟩).trans (by rw [iL, List.map_map]; rfl)) (eq_self hml)) (e_cmp (op := .Eq) (v := iL nf) (v' := iL nf) rfl rfl (eq_self hfl))
    (e_cmp (op := .Gt) (t := true) (v := .int (nf.length : Int)) (v' := .int 1) ((e_bi1 (v := iL nf) rfl).trans (len_ev hfl)) rfl (congrArg some (decide_eq_true (Int.ofNat_lt.mpr htwo))))).trans rfl
end Mine
end

-- J1
section
open PySem PySem.W PyProof.Rows PySem.Calls PySem.Spec
set_option maxRecDepth 100000
set_option maxHeartbeats 4000000
set_option autoImplicit false
set_option genSizeOf false
set_option genInjectivity false
set_option Elab.async false
namespace Mine
theorem law_name : dL.1.name = Str.ofString "law" := by kernel_rfl
theorem joined : PySem.Challenge.rw_wj0068_01.Holds := by
  refine Mine.head ?_
  intro w s₀ s₁ mg mb G Y fa o pm cd doc dV kV ho hd hcd hD hmg hg args vals as hpre hlay hrd hwl hlo
  obtain ⟨K, KX, hK⟩ := Y
  refine Ground.open G ?_
  intro T B D TE TW
  clear D
  have H : HPk K mg mb s₁.heap := ⟨KX, T.g, T.b, T.nolimit⟩
  have h327 : Value.ref fa = Value.ref 327 := Option.some.inj (hmg.symm.trans ((congrArg mg law_name).trans (law_call (prog := PySem.Challenge.rw_wj0068_01.row.prog) (w := w) T.builtins hK H).1))
  clear hmg hd hcd ho hD
  cases h327
  wrow_args hpre hlay hrd hwl hlo
  all_goals (
    refine enter_call ?_
    w_top on
    try refine codeAny_mono ?_ (fun _ _ g => GoodW.toG g))
  all_goals (
    rename_i ns _ _ _ _ _ _ _ l vs _ hL _ _ _ hI _ hc _
    have hlen : ns.length ≤ 63 := by
      have := hc
      omega
    refine (law_call (w := w) T.builtins hK H).2 (pure_law ns hlen) hL hI ?_
    intro s' k
    have k2 := k.keep
    obtain ⟨⟨h', tk, e⟩, _⟩ := k
    refine ⟨.inl ⟨_, .bool true, [], rfl, ?_, .bool true, ?_, ?_⟩, k2, ?_, ?_⟩
    · intro cls; rfl
    · exact postW_of (by rfl) (by wtm_val) (by first | rfl | w_fin)
    · exact fun _ => ⟨List.nodup_nil, fun a ha => by cases ha⟩
    · rw [e]
    · rw [e]; exact hg)
end Mine
end

theorem PySem.Challenge.cw_wj0068_01_holds : PySem.Challenge.rw_wj0068_01.Holds :=
  Mine.joined

