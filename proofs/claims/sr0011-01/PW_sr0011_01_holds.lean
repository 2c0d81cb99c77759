import PyProof.Rows.All
import Wide.All
import OpenK.AllK
import Wide.FinOn
import PySem.Challenge.RW_sr0011_01
set_option Elab.async false
open PySem PySem.W PyProof.Rows
namespace Mine
inductive D where
  | none
  | bool (b : Bool)
  | int (i : Int)
  | str (x : Str)
  | bytes (b : Array UInt8)
  | tup (ds : List D)
  | lst (ds : List D)

mutual
inductive Rel (X : List Addr) (h : Heap) : Value → D → Prop
  | none : Rel X h Value.none D.none
  | bool (b : Bool) : Rel X h (Value.bool b) (D.bool b)
  | int (i : Int) (t : Tok) : Rel X h (Value.int i t) (D.int i)
  | str (x : Str) (t : Tok) : Rel X h (Value.str x t) (D.str x)
  | bytes (b : Array UInt8) (t : Tok) : Rel X h (Value.bytes b t) (D.bytes b)
  | tup {a : Addr} {vs : List Value} {ds : List D} : IsTup h a vs.toArray → RelL X h vs ds → Rel X h (Value.ref a) (D.tup ds)
  | lst {a : Addr} {vs : List Value} {ds : List D} : a ∉ X → h.IsList a vs.toArray → RelL X h vs ds → Rel X h (Value.ref a) (D.lst ds)
inductive RelL (X : List Addr) (h : Heap) : List Value → List D → Prop
  | nil : RelL X h [] []
  | cons {v : Value} {vs : List Value} {d : D} {ds : List D} : Rel X h v d → RelL X h vs ds → RelL X h (v :: vs) (d :: ds)
end
noncomputable def Stay (X : List Addr) (h h' : Heap) : Prop :=
  (∀ a its, IsTup h a its → IsTup h' a its) ∧ (∀ a its, a ∉ X → h.IsList a its → h'.IsList a its)

mutual
theorem Rel.stay {X Y : List Addr} {h h' : Heap} (hs : Stay X h h') (hy : ∀ a, a ∈ Y → a ∈ X ∨ h.get? a = .none) : ∀ {v : Value} {d : D}, Rel X h v d → Rel Y h' v d
  | _, _, .none => .none
  | _, _, .bool b => .bool b
  | _, _, .int i t => .int i t
  | _, _, .str x t => .str x t
  | _, _, .bytes b t => .bytes b t
  | _, _, .tup ht r => .tup (hs.1 _ _ ht) (RelL.stay hs hy r)
  | _, _, .lst hn hl r => .lst (fun hm => (hy _ hm).elim hn fun e => by obtain ⟨o, ho, _⟩ := hl; rw [e] at ho; cases ho) (hs.2 _ _ hn hl) (RelL.stay hs hy r)
theorem RelL.stay {X Y : List Addr} {h h' : Heap} (hs : Stay X h h') (hy : ∀ a, a ∈ Y → a ∈ X ∨ h.get? a = .none) : ∀ {vs : List Value} {ds : List D}, RelL X h vs ds → RelL Y h' vs ds
  | _, _, .nil => .nil
  | _, _, .cons hv r => .cons (Rel.stay hs hy hv) (RelL.stay hs hy r)
end
noncomputable def Ext (h h' : Heap) : Prop := ∀ a o, h.get? a = some o → h'.get? a = some o
theorem Ext.refl (h : Heap) : Ext h h := fun _ _ e => e
theorem Ext.trans {h h' h'' : Heap} (x : Ext h h') (y : Ext h' h'') : Ext h h'' := fun a o e => y a o (x a o e)
theorem Ext.push (h : Heap) (o : Obj) : Ext h (h.push o) := fun _ _ e => Heap.get?_push_of_some o e
theorem IsListE {h h' : Heap} (x : Ext h h') {a its} (hl : h.IsList a its) : h'.IsList a its := let ⟨o, ho, r⟩ := hl; ⟨o, x _ _ ho, r⟩
theorem IsTupE {h h' : Heap} (x : Ext h h') {a its} (hl : IsTup h a its) : IsTup h' a its := let ⟨o, ho, r⟩ := hl; ⟨o, x _ _ ho, r⟩
theorem Ext.stay {h h' : Heap} (x : Ext h h') (X : List Addr) : Stay X h h' := ⟨fun _ _ ht => IsTupE x ht, fun _ _ _ hl => IsListE x hl⟩
theorem Rel.ext {X : List Addr} {h h' : Heap} (x : Ext h h') {v d} (r : Rel X h v d) : Rel X h' v d := r.stay (x.stay X) fun _ hm => .inl hm
theorem RelL.ext {X : List Addr} {h h' : Heap} (x : Ext h h') {vs ds} (r : RelL X h vs ds) : RelL X h' vs ds := r.stay (x.stay X) fun _ hm => .inl hm
theorem Rel.sub {X Y : List Addr} {h : Heap} (hy : ∀ a, a ∈ Y → a ∈ X ∨ h.get? a = .none) {v d} (r : Rel X h v d) : Rel Y h v d := r.stay ((Ext.refl h).stay X) hy
theorem RelL.sub {X Y : List Addr} {h : Heap} (hy : ∀ a, a ∈ Y → a ∈ X ∨ h.get? a = .none) {vs ds} (r : RelL X h vs ds) : RelL Y h vs ds := r.stay ((Ext.refl h).stay X) hy

theorem RelL.length {X : List Addr} {h : Heap} {vs ds} (r : RelL X h vs ds) : vs.length = ds.length := by
  induction vs generalizing ds with
  | nil => cases r; rfl
  | cons v vs ih => cases r with | cons _ r => simp [ih r]
theorem RelL.append {X : List Addr} {h : Heap} {vs ws ds es} (r : RelL X h vs ds) (q : RelL X h ws es) : RelL X h (vs ++ ws) (ds ++ es) := by
  induction vs generalizing ds with
  | nil => cases r; exact q
  | cons v vs ih => cases r with | cons hv r => exact .cons hv (ih r)
theorem RelL.one {X : List Addr} {h : Heap} {v d} (r : Rel X h v d) : RelL X h [v] [d] := .cons r .nil
theorem RelL.get {X : List Addr} {h : Heap} {vs ds} (r : RelL X h vs ds) : ∀ {k : Nat} {d : D}, ds[k]? = some d → ∃ v, vs[k]? = some v ∧ Rel X h v d := by
  induction vs generalizing ds with
  | nil => cases r; intro k d e; simp at e
  | cons v vs ih =>
    cases r with
    | cons hv r =>
      intro k d e
      cases k with
      | zero => simp at e; subst e; exact ⟨v, rfl, hv⟩
      | succ k => simpa using ih r (by simpa using e)
theorem RelL.take {X : List Addr} {h : Heap} {vs ds} (r : RelL X h vs ds) : ∀ k, RelL X h (vs.take k) (ds.take k) := by
  induction vs generalizing ds with
  | nil => cases r; intro k; simpa using RelL.nil
  | cons v vs ih =>
    cases r with
    | cons hv r =>
      intro k
      cases k with
      | zero => exact .nil
      | succ k => exact .cons hv (ih r k)
theorem RelL.drop {X : List Addr} {h : Heap} {vs ds} (r : RelL X h vs ds) : ∀ k, RelL X h (vs.drop k) (ds.drop k) := by
  induction vs generalizing ds with
  | nil => cases r; intro k; simpa using RelL.nil
  | cons v vs ih =>
    cases r with
    | cons hv r =>
      intro k
      cases k with
      | zero => exact .cons hv r
      | succ k => exact ih r k
noncomputable def Kp (s s' : Shared) : Prop := ∃ h' tk, s' = { s with heap := h', toks := tk } ∧ ∀ b o, s.heap.get? b = some o → h'.get? b = some o
theorem Kp.rfl' (s : Shared) : Kp s s := ⟨s.heap, s.toks, rfl, fun _ _ e => e⟩
theorem Kp.ext {s s' : Shared} (k : Kp s s') : Ext s.heap s'.heap := by obtain ⟨h', tk, rfl, hk⟩ := k; exact hk
theorem Kp.trans' {s s' s'' : Shared} (k : Kp s s') (k' : Kp s' s'') : Kp s s'' := by
  obtain ⟨h', tk, rfl, hk⟩ := k
  obtain ⟨h'', tk', rfl, hk'⟩ := k'
  exact ⟨h'', tk', rfl, fun b o e => hk' b o (hk b o e)⟩
theorem Kp.mk' {s : Shared} {h' : Heap} {tk : Nat} (x : Ext s.heap h') : Kp s { s with heap := h', toks := tk } := ⟨h', tk, rfl, x⟩
noncomputable def EP (X : List Addr) (d : D) (s : Shared) (v : Value) (s' : Shared) : Prop := Kp s s' ∧ Rel X s'.heap v d
noncomputable abbrev noE : Value → Shared → Prop := fun _ _ => False

end Mine
open PySem PySem.W PyProof.Rows
namespace Mine

inductive Op2 where
  | add | sub | mul | fdiv | mod
inductive Cm where
  | lt | gt | eq | ne

set_option genInjectivity false
set_option genSizeOf false
mutual
inductive E where
  | fls
  | int (i : Int)
  | str (x : Str)
  | neg (e : E)
  | var (n : Nat)
  | bin (o : Op2) (a b : E)
  | ife (t : T) (a b : E)
  | cmp (c : Cm) (a b : E)
  | idx (a i : E)
  | slcT (a hi : E)
  | slc (a lo hi : E)
  | list (es : List E)
  | tup (es : List E)
  | rep (e n : E)
  | comp (elt : E) (x : Nat) (it : I) (fr : List Nat) (t : Option T)
  | comp2 (elt : E) (x : Nat) (it : I) (y : Nat) (it2 : I) (fr : List Nat)
  | call (f : Nat) (args : List E)
  | len (e : E)
  | sum (e : E)
  | max (a b : E)
  | sorted (e : E)
  | encode (e : E)
  | split (e : E)
  | accLen
  | accL (e : E)
  | accR (e : E)
  | accAdd (e : E)
inductive T where
  | cmp (a : E) (cs : List Cm) (es : List E)
  | and (a b : T)
  | isIn (a : E) (i j : Int)
inductive I where
  | range (e : E)
  | seq (e : E)
end

inductive S where
  | asg (x : Nat) (e : E)
  | acc
  | app (e : E)
  | ins (e : E)
  | mov (y : Nat)
  | ifs (t : T) (a b : List S)
  | for1 (x : Nat) (it : I) (body : List S)
  | for2 (x y : Nat) (it : I) (body : List S)
  | ret (e : E)
  | retAcc

set_option genInjectivity true
set_option genSizeOf true
structure St where
  env : List (Nat × D)
  acc : Option (List D)

inductive Fl where
  | next
  | ret (d : D)

structure Ev where
  e : St → E → Option D
  t : St → T → Option Bool
  ss : St → List S → Option (St × Fl)
  f : Nat → List D → Option D

noncomputable def look (n : Nat) : List (Nat × D) → Option D
  | [] => none
  | (k, d) :: r => bif Nat.beq n k then some d else look n r
noncomputable def put (n : Nat) (d : D) : List (Nat × D) → List (Nat × D)
  | [] => [(n, d)]
  | (k, c) :: r => bif Nat.beq n k then (n, d) :: r else (k, c) :: put n d r
noncomputable def St.put (σ : St) (n : Nat) (d : D) : St := ⟨Mine.put n d σ.env, σ.acc⟩
noncomputable def keepFr (fr : List Nat) (ρ : List (Nat × D)) : List (Nat × D) := fr.filterMap fun n => (look n ρ).map (n, ·)

noncomputable def lim : Nat := 100000
noncomputable def okLen (n : Nat) : Bool := Nat.ble n lim
noncomputable def okInt (i : Int) : Bool := Nat.ble i.natAbs 1000000000

noncomputable def int? : D → Option Int
  | .int i => some i
  | _ => none
noncomputable def ints? : List D → Option (List Int)
  | [] => some []
  | d :: r => match int? d, ints? r with
    | some i, some is => some (i :: is)
    | _, _ => none

mutual
noncomputable def D.toP : D → PyData
  | .none => .none
  | .bool b => .bool b
  | .int i => .int i
  | .str x => .str x
  | .bytes _ => .none
  | .tup ds => .tuple (D.toPs ds)
  | .lst ds => .list (D.toPs ds)
noncomputable def D.toPs : List D → List PyData
  | [] => []
  | d :: ds => d.toP :: D.toPs ds
end
noncomputable def pyOk : Nat → D → Bool
  | _, .int _ => true
  | n + 1, .tup ds => ds.all (pyOk n)
  | n + 1, .lst ds => ds.all (pyOk n)
  | _, _ => false

noncomputable def int2 (f : Int → Int → Option D) : D → D → Option D
  | .int a, .int b => f a b
  | _, _ => none
noncomputable def addD : D → D → Option D
  | .int a, .int b => some (.int (a + b))
  | .str a, .str b => bif okLen (a.length + b.length) then some (.str (a ++ b)) else none
  | .lst a, .lst b => bif okLen (a.length + b.length) then some (.lst (a ++ b)) else none
  | _, _ => none
noncomputable def mulD : D → D → Option D
  | .str a, .int n => bif okLen (a.length * n.toNat) && okLen a.length && okInt n then some (.str (Txt.mul a n)) else none
  | _, _ => none
noncomputable def binD : Op2 → D → D → Option D
  | .add => addD
  | .sub => int2 fun a b => some (.int (a - b))
  | .mul => mulD
  | .fdiv => int2 fun a b => bif okInt a && okInt b && !(b == 0) then some (.int (a.fdiv b)) else none
  | .mod => int2 fun a b => bif b == 0 then none else some (.int (a.fmod b))

noncomputable def cmpI (f : Int → Int → Bool) : D → D → Option Bool
  | .int a, .int b => some (f a b)
  | _, _ => none
noncomputable def eqD : D → D → Option Bool
  | .int a, .int b => some (a == b)
  | .lst a, .lst b => bif pyOk 8 (.lst a) && pyOk 8 (.lst b) then some (PyData.eqv (D.toP (.lst a)) (D.toP (.lst b))) else none
  | _, _ => none
noncomputable def neD : D → D → Option Bool
  | .int a, .int b => some (a != b)
  | .bytes a, .bytes b => some (a.toList != b.toList)
  | .lst a, .lst b => bif pyOk 8 (.lst a) && pyOk 8 (.lst b) then some (!PyData.eqv (D.toP (.lst a)) (D.toP (.lst b))) else none
  | _, _ => none
noncomputable def cmpD : Cm → D → D → Option Bool
  | .lt => cmpI fun a b => decide (a < b)
  | .gt => cmpI fun a b => decide (b < a)
  | .eq => eqD
  | .ne => neD

noncomputable def nth? (i : Int) (ds : List D) : Option D :=
  match i with
  | .ofNat k => ds[k]?
  | .negSucc k => bif Nat.ble (k + 1) ds.length then ds[ds.length - (k + 1)]? else none
noncomputable def idxD : D → D → Option D
  | .lst ds, .int i => bif okInt i then nth? i ds else none
  | .tup ds, .int i => bif okInt i then nth? i ds else none
  | _, _ => none
noncomputable def slcD : D → Nat → D → Option D
  | .lst ds, lo, .int hi => match hi with
    | .ofNat k => bif okLen k && okLen lo && okLen ds.length then some (.lst ((ds.take k).drop lo)) else none
    | _ => none
  | _, _, _ => none

noncomputable def bisR (xs : List Int) (x : Int) : Nat → Nat → Nat → Nat
  | 0, lo, _ => lo
  | f + 1, lo, hi => bif Nat.ble hi lo then lo else
    bif decide (x < xs.getD ((lo + hi) / 2) 0) then bisR xs x f lo ((lo + hi) / 2) else bisR xs x f ((lo + hi) / 2 + 1) hi
noncomputable def bisL (xs : List Int) (x : Int) : Nat → Nat → Nat → Nat
  | 0, lo, _ => lo
  | f + 1, lo, hi => bif Nat.ble hi lo then lo else
    bif decide (xs.getD ((lo + hi) / 2) 0 < x) then bisL xs x f ((lo + hi) / 2 + 1) hi else bisL xs x f lo ((lo + hi) / 2)
noncomputable def ltInts : List Int → List Int → Bool
  | [], _ :: _ => true
  | a :: r, b :: s => bif a == b then ltInts r s else decide (a < b)
  | _, [] => false
noncomputable def tupInts? : D → Option (List Int)
  | .tup ds => ints? ds
  | _ => none
noncomputable def runK {α : Type} (cmp : Nat → Nat → Bool) : KasT α → α
  | .ret a => a
  | .ask i j k => runK cmp (k (cmp i j))
noncomputable def sortD : D → Option D
  | .lst ds => bif Nat.ble 64 ds.length then none else
    bif ds.all (fun d => (tupInts? d).any fun is => Nat.beq is.length 2) then
      bif Nat.ble 2 ds.length then
        some (.lst ((runK (fun i j => ltInts (((ds[i]?).bind tupInts?).getD []) (((ds[j]?).bind tupInts?).getD [])) (kas_sort ds.length)).toList.map fun i => ds.getD i .none))
      else some (.lst ds)
    else none
  | _ => none

noncomputable def lenD : D → Option D
  | .lst ds => bif okLen ds.length then some (.int ds.length) else none
  | _ => none
noncomputable def sumD : D → Option D
  | .lst ds => match ints? ds with
    | some is => bif okLen ds.length then some (.int is.sum) else none
    | none => none
  | _ => none
noncomputable def maxD : D → D → Option D
  | .int a, .int b => some (.int (bif decide (a < b) then b else a))
  | _, _ => none
noncomputable def encD : D → Option D
  | .str x => bif x.cps.all (fun c => Nat.blt c 128) && okLen x.length then some (.bytes (x.cps.map (·.toUInt8))) else none
  | _ => none
noncomputable def splitB (b : Array UInt8) : List (Array UInt8) :=
  if ((Builtin.Bytes.occurrences b #[13, 10] 0 b.size).take (b.size + 1)).isEmpty = true then [b] else Builtin.Bytes.between b 2 ((Builtin.Bytes.occurrences b #[13, 10] 0 b.size).take (b.size + 1))
noncomputable def splitD : D → Option D
  | .bytes b => bif okLen (splitB b).length && (splitB b).all (fun p => okLen p.size) then some (.lst ((splitB b).map .bytes)) else none
  | _ => none

noncomputable def evalI (v : Ev) (σ : St) : I → Option (List D)
  | .range e => match v.e σ e with
    | some (.int i) => bif okInt i then some ((List.range i.toNat).map fun (k : Nat) => D.int (k : Int)) else none
    | _ => none
  | .seq e => match v.e σ e with
    | some (.lst ds) => bif okLen ds.length then some ds else none
    | _ => none
noncomputable def evalEs (v : Ev) (σ : St) : List E → Option (List D)
  | [] => some []
  | e :: r => match v.e σ e with
    | some d => match evalEs v σ r with
      | some ds => some (d :: ds)
      | none => none
    | none => none
noncomputable def testO (v : Ev) (σ : St) : Option T → Option Bool
  | none => some true
  | some t => v.t σ t
noncomputable def compGo (v : Ev) (elt : E) (x : Nat) (t : Option T) (ρ : List (Nat × D)) : List D → Option (List D)
  | [] => some []
  | d :: ds =>
    match testO v ⟨(x, d) :: ρ, none⟩ t with
    | some true => match v.e ⟨(x, d) :: ρ, none⟩ elt with
      | some y => match compGo v elt x t ρ ds with
        | some ys => some (y :: ys)
        | none => none
      | none => none
    | some false => compGo v elt x t ρ ds
    | none => none
noncomputable def compGo2 (v : Ev) (elt : E) (x y : Nat) (it2 : I) (ρ : List (Nat × D)) : List D → Option (List D)
  | [] => some []
  | d :: ds => match evalI v ⟨(x, d) :: ρ, none⟩ it2 with
    | some es => match compGo v elt y none ((x, d) :: ρ) es with
      | some ys => match compGo2 v elt x y it2 ρ ds with
        | some zs => some (ys ++ zs)
        | none => none
      | none => none
    | none => none

noncomputable def stepE (v : Ev) (σ : St) : E → Option D
  | .fls => some (.bool false)
  | .int i => some (.int i)
  | .str x => some (.str x)
  | .neg e => match v.e σ e with
    | some (.int i) => some (.int (-i))
    | _ => none
  | .var n => look n σ.env
  | .bin o a b => match v.e σ a with
    | some x => match v.e σ b with
      | some y => binD o x y
      | none => none
    | none => none
  | .ife t a b => match v.t σ t with
    | some true => v.e σ a
    | some false => v.e σ b
    | none => none
  | .cmp c a b => match v.e σ a with
    | some x => match v.e σ b with
      | some y => (cmpD c x y).map D.bool
      | none => none
    | none => none
  | .idx a i => match v.e σ a with
    | some x => match v.e σ i with
      | some y => idxD x y
      | none => none
    | none => none
  | .slcT a hi => match v.e σ a with
    | some x => match v.e σ hi with
      | some y => slcD x 0 y
      | none => none
    | none => none
  | .slc a lo hi => match v.e σ a with
    | some x => match v.e σ lo with
      | some (.int (.ofNat l)) => match v.e σ hi with
        | some y => slcD x l y
        | none => none
      | _ => none
    | none => none
  | .list es => match evalEs v σ es with
    | some ds => bif okLen ds.length then some (.lst ds) else none
    | none => none
  | .tup es => match evalEs v σ es with
    | some ds => bif okLen ds.length then some (.tup ds) else none
    | none => none
  | .rep e n => match v.e σ e with
    | some x => match v.e σ n with
      | some (.int i) => bif okInt i && okLen i.toNat then some (.lst (List.replicate i.toNat x)) else none
      | _ => none
    | none => none
  | .comp elt x it fr t => match evalI v σ it with
    | some ds => match compGo v elt x t (keepFr fr σ.env) ds with
      | some ys => bif okLen ys.length then some (.lst ys) else none
      | none => none
    | none => none
  | .comp2 elt x it y it2 fr => match evalI v σ it with
    | some ds => match compGo2 v elt x y it2 (keepFr fr σ.env) ds with
      | some ys => bif okLen ys.length then some (.lst ys) else none
      | none => none
    | none => none
  | .call f args => match evalEs v σ args with
    | some ds => v.f f ds
    | none => none
  | .len e => (v.e σ e).bind lenD
  | .sum e => (v.e σ e).bind sumD
  | .max a b => match v.e σ a with
    | some x => match v.e σ b with
      | some y => maxD x y
      | none => none
    | none => none
  | .sorted e => (v.e σ e).bind sortD
  | .encode e => (v.e σ e).bind encD
  | .split e => (v.e σ e).bind splitD
  | .accLen => match σ.acc with
    | some ds => lenD (.lst ds)
    | none => none
  | .accL e => match σ.acc with
    | some ds => match ints? ds with
      | some is => match v.e σ e with
        | some (.int x) => bif okLen is.length then some (.int (bisL is x (is.length + 1) 0 is.length)) else none
        | _ => none
      | none => none
    | none => none
  | .accR e => match σ.acc with
    | some ds => match ints? ds with
      | some is => match v.e σ e with
        | some (.int x) => bif okLen is.length then some (.int (bisR is x (is.length + 1) 0 is.length)) else none
        | _ => none
      | none => none
    | none => none
  | .accAdd e => match σ.acc with
    | some ds => match v.e σ e with
      | some (.lst es) => bif okLen (ds.length + es.length) then some (.lst (ds ++ es)) else none
      | _ => none
    | none => none

noncomputable def chainGo (v : Ev) (σ : St) (x : D) : List Cm → List E → Option Bool
  | [c], [e] => match v.e σ e with
    | some y => cmpD c x y
    | none => none
  | c :: c' :: cs, e :: e' :: es => match v.e σ e with
    | some y => match cmpD c x y with
      | some true => chainGo v σ y (c' :: cs) (e' :: es)
      | some false => some false
      | none => none
    | none => none
  | _, _ => none

noncomputable def stepT (v : Ev) (σ : St) : T → Option Bool
  | .cmp a cs es => match v.e σ a with
    | some x => chainGo v σ x cs es
    | none => none
  | .and a b => match v.t σ a with
    | some true => v.t σ b
    | some false => some false
    | none => none
  | .isIn a i j => match v.e σ a with
    | some (.int k) => some (i == k || j == k)
    | _ => none

noncomputable def loop (bind : St → D → Option St) (body : St → Option (St × Fl)) : List D → St → Option (St × Fl)
  | [], σ => some (σ, .next)
  | d :: ds, σ => match bind σ d with
    | some σ₁ => match body σ₁ with
      | some (σ₂, .next) => loop bind body ds σ₂
      | some (σ₂, .ret r) => some (σ₂, .ret r)
      | none => none
    | none => none

noncomputable def bind1 (x : Nat) (σ : St) (d : D) : Option St := some (σ.put x d)
noncomputable def bind2 (x y : Nat) (σ : St) : D → Option St
  | .tup [a, b] => some ((σ.put x a).put y b)
  | _ => none

noncomputable def stepS (v : Ev) (σ : St) : S → Option (St × Fl)
  | .asg x e => (v.e σ e).map fun d => (σ.put x d, .next)
  | .acc => match σ.acc with
    | none => some (⟨σ.env, some []⟩, .next)
    | some _ => none
  | .app e => match v.e σ e with
    | some d => match σ.acc with
      | some ds => bif okLen ds.length then some (⟨σ.env, some (ds ++ [d])⟩, .next) else none
      | none => none
    | none => none
  | .ins e => match v.e σ e with
    | some (.int x) => match σ.acc with
      | some ds => match ints? ds with
        | some is => bif okLen is.length then some (⟨σ.env, some (ds.take (bisR is x (is.length + 1) 0 is.length) ++ .int x :: ds.drop (bisR is x (is.length + 1) 0 is.length))⟩, .next) else none
        | none => none
      | none => none
    | _ => none
  | .mov y => match σ.acc with
    | some ds => some (⟨put y (.lst ds) σ.env, none⟩, .next)
    | none => none
  | .ifs t a b => match v.t σ t with
    | some true => v.ss σ a
    | some false => v.ss σ b
    | none => none
  | .for1 x it body => match evalI v σ it with
    | some ds => loop (bind1 x) (fun σ => v.ss σ body) ds σ
    | none => none
  | .for2 x y it body => match evalI v σ it with
    | some ds => loop (bind2 x y) (fun σ => v.ss σ body) ds σ
    | none => none
  | .ret e => (v.e σ e).map fun d => (σ, .ret d)
  | .retAcc => σ.acc.map fun ds => (σ, .ret (.lst ds))

noncomputable def stepSs (v : Ev) (σ : St) : List S → Option (St × Fl)
  | [] => some (σ, .next)
  | s :: r => match stepS v σ s with
    | some (σ', .next) => v.ss σ' r
    | some (σ', .ret d) => some (σ', .ret d)
    | none => none

structure Fn where
  params : List Nat
  body : List S

noncomputable def stepF (fns : Nat → Option Fn) (prim : Nat → List D → Option D) (v : Ev) (f : Nat) (ds : List D) : Option D :=
  match fns f with
  | some fn => bif Nat.beq fn.params.length ds.length then
      match v.ss ⟨fn.params.zip ds, none⟩ fn.body with
      | some (_, .ret d) => some d
      | _ => none
    else none
  | none => prim f ds

noncomputable def ev (fns : Nat → Option Fn) (prim : Nat → List D → Option D) : Nat → Ev
  | 0 => ⟨fun _ _ => none, fun _ _ => none, fun _ _ => none, fun _ _ => none⟩
  | n + 1 => ⟨stepE (ev fns prim n), stepT (ev fns prim n), stepSs (ev fns prim n), stepF fns prim (ev fns prim n)⟩

end Mine
open PySem PySem.W PyProof.Rows
namespace Mine
noncomputable def names : List String := ["script", "begin", "k", "drawn", "kinds", "depth", "v", "kind", "text", "due", "row", "pieces", "depths", "piece", "webs", "place", "grown", "loose", "arcs", "one", "left", "other", "web", "ends", "crossed", "held", "start", "end", "a", "b", "counts", "height", "heights", "mail", "sent", "told", "full", "spread", "n"]
noncomputable def nm (i : Nat) : Str := match names[i]? with
  | some x => Str.ofString x
  | none => ⟨Array.replicate (i + 100) 0⟩
theorem nm_inj {a b : Nat} (h : nm a = nm b) : a = b := by
  have hl : names.length = 39 := by decide
  have hs : ∀ i, i < 39 → (nm i).cps.size < 100 := by decide +kernel
  have hi : ∀ i, i < 39 → ∀ j, j < 39 → nm i = nm j → i = j := by decide +kernel
  have hb : ∀ i, 39 ≤ i → (nm i).cps.size = i + 100 := fun i hi => by
    have : names[i]? = none := List.getElem?_eq_none (by omega)
    simp [nm, this]
  have e : (nm a).cps.size = (nm b).cps.size := by rw [h]
  by_cases ha : a < 39
  · by_cases hb' : b < 39
    · exact hi a ha b hb' h
    · have := hs a ha; have := hb b (by omega); omega
  · by_cases hb' : b < 39
    · have := hs b hb'; have := hb a (by omega); omega
    · have := hb a (by omega); have := hb b (by omega); omega
noncomputable def fnames : List String := ["_law_drawn", "_law_kinds", "_law_mail", "_law_depths", "_law_webs", "_law_told", "_law_pairs", "_law_spread", "_paren_depth", "_quote_periods", "_fix_eols", "bisect_left", "bisect_right", "insort_right"]
noncomputable def fadr (i : Nat) : Addr := [100, 107, 114, 121, 126, 133, 140, 145, 71, 88, 95, 58, 49, 40, 150].getD i 0
noncomputable def fnm (i : Nat) : Str := Str.ofString (fnames.getD i "")


noncomputable def drawnB : List S := [
  .asg 1 (.list [.int 4, .int 24, .int 37, .int 11, .int 28]),
  .ret (.comp (.bin .mod (.bin .add (.idx (.var 1) (.var 2)) (.ife (.cmp (.var 2) [.lt] [.len (.var 0)]) (.idx (.var 0) (.var 2)) (.int 0))) (.int 48)) 2 (.range (.int 5)) [1, 0] none)]

noncomputable def kindsB : List S := [
  .acc,
  .asg 5 (.int 0),
  .for1 6 (.seq (.var 3)) [
    .asg 7 (.int 3),
    .ifs (.and (.cmp (.bin .mod (.var 6) (.int 4)) [.eq] [.int 0]) (.cmp (.var 5) [.lt] [.int 3]))
      [.asg 7 (.int 0), .asg 5 (.bin .add (.var 5) (.int 1))]
      [.ifs (.and (.cmp (.bin .mod (.var 6) (.int 4)) [.eq] [.int 1]) (.cmp (.int 0) [.lt, .lt] [.var 5, .int 3]))
        [.asg 7 (.int 1)]
        [.ifs (.and (.cmp (.bin .mod (.var 6) (.int 4)) [.eq] [.int 2]) (.cmp (.var 5) [.gt] [.int 0]))
          [.asg 7 (.int 2), .asg 5 (.bin .sub (.var 5) (.int 1))]
          []]],
    .app (.var 7)],
  .ret (.accAdd (.rep (.int 2) (.var 5)))]

noncomputable def mailB : List S := [
  .asg 8 (.str ""),
  .asg 9 (.str ""),
  .for1 2 (.range (.len (.var 4))) [
    .asg 6 (.idx (.var 3) (.bin .mod (.var 2) (.int 5))),
    .asg 10 (.bin .add (.idx (.list [.str "(", .str ")(", .str ")", .str "."]) (.idx (.var 4) (.var 2)))
      (.idx (.list [.str "", .str " \"(\"", .str " \"\\\")\"", .str " \"(\\\\\""]) (.bin .mod (.bin .fdiv (.var 6) (.int 4)) (.int 4)))),
    .asg 8 (.bin .add (.bin .add (.var 8) (.var 10)) (.idx (.list [.str "\n", .str "\r\n", .str "\r"]) (.bin .fdiv (.var 6) (.int 16)))),
    .asg 9 (.bin .add (.bin .add (.bin .add (.var 9) (.bin .mul (.str ".") (.bin .fdiv (.idx (.var 4) (.var 2)) (.int 3)))) (.var 10)) (.str "\r\n"))],
  .ret (.tup [.var 8, .encode (.var 9)])]

noncomputable def depthsB : List S := [
  .asg 5 (.int 0),
  .acc,
  .for1 13 (.seq (.var 11)) [
    .app (.var 5),
    .asg 5 (.call 8 [.var 13, .var 5])],
  .retAcc]

noncomputable def websB : List S := [
  .asg 14 (.list [.tup [.list [], .list []]]),
  .for1 15 (.range (.len (.var 4))) [
    .acc,
    .for2 17 18 (.seq (.var 14)) [
      .ifs (.cmp (.idx (.var 4) (.var 15)) [.eq] [.int 0])
        [.app (.tup [.bin .add (.var 17) (.list [.var 15]), .var 18])]
        [.ifs (.cmp (.idx (.var 4) (.var 15)) [.eq] [.int 3])
          [.app (.tup [.var 17, .var 18])]
          [.for1 19 (.seq (.var 17)) [
            .asg 20 (.bin .add (.comp (.var 21) 21 (.seq (.var 17)) [19] (some (.cmp (.var 21) [.ne] [.var 19]))) (.rep (.var 15) (.bin .sub (.int 2) (.idx (.var 4) (.var 15))))),
            .app (.tup [.var 20, .bin .add (.var 18) (.list [.tup [.var 19, .var 15]])])]]]],
    .mov 14],
  .ret (.comp (.idx (.var 22) (.int 1)) 22 (.seq (.var 14)) [] none)]

noncomputable def toldB : List S := [
  .acc,
  .asg 24 (.int 0),
  .asg 25 (.int 0),
  .for2 26 27 (.seq (.sorted (.var 18))) [
    .asg 24 (.bin .sub (.bin .add (.var 24) (.accL (.var 27))) (.accR (.var 26))),
    .asg 25 (.bin .sub (.bin .add (.var 25) .accLen) (.accR (.var 27))),
    .ins (.var 27)],
  .ret (.tup [.var 24, .var 25])]

noncomputable def pairsB : List S := [
  .asg 24 (.int 0),
  .asg 25 (.int 0),
  .for1 2 (.range (.len (.var 18))) [
    .for2 28 29 (.seq (.slcT (.var 18) (.var 2))) [
      .ifs (.cmp (.var 28) [.lt, .lt, .lt] [.idx (.idx (.var 18) (.var 2)) (.int 0), .var 29, .idx (.idx (.var 18) (.var 2)) (.int 1)])
        [.asg 24 (.bin .add (.var 24) (.int 1))] [],
      .ifs (.and (.cmp (.idx (.idx (.var 18) (.var 2)) (.int 0)) [.lt] [.var 28]) (.cmp (.var 29) [.lt] [.idx (.idx (.var 18) (.var 2)) (.int 1)]))
        [.asg 25 (.bin .add (.var 25) (.int 1))] []]],
  .ret (.tup [.var 24, .var 25])]

noncomputable def spreadB : List S := [
  .asg 30 (.list [.int 1]),
  .for1 31 (.seq (.var 32)) [
    .asg 30 (.comp (.sum (.slc (.var 30) (.max (.int 0) (.bin .add (.bin .sub (.var 2) (.var 31)) (.int 1))) (.bin .add (.var 2) (.int 1)))) 2
      (.range (.bin .sub (.bin .add (.len (.var 30)) (.var 31)) (.int 1))) [30, 31] none)],
  .ret (.var 30)]

noncomputable def lawB : List S := [
  .asg 3 (.call 0 [.var 0]),
  .asg 4 (.call 1 [.var 3]),
  .asg 33 (.call 2 [.var 3, .var 4]),
  .asg 34 (.call 9 [.encode (.call 10 [.idx (.var 33) (.int 0)])]),
  .ifs (.cmp (.var 34) [.ne] [.idx (.var 33) (.int 1)]) [.ret .fls] [],
  .asg 12 (.call 3 [.split (.var 34)]),
  .ifs (.cmp (.idx (.var 12) (.neg (.int 1))) [.ne] [.int 0]) [.ret .fls] [],
  .asg 14 (.call 4 [.var 4]),
  .asg 35 (.comp (.call 5 [.var 18]) 18 (.seq (.var 14)) [] none),
  .ifs (.cmp (.var 35) [.ne] [.comp (.call 6 [.var 18]) 18 (.seq (.var 14)) [] none]) [.ret .fls] [],
  .asg 32 (.comp (.idx (.var 12) (.var 2)) 2 (.range (.len (.var 4))) [12, 4] (some (.isIn (.idx (.var 4) (.var 2)) 1 2))),
  .asg 36 (.bin .sub (.sum (.var 32)) (.len (.var 32))),
  .asg 37 (.call 7 [.var 32]),
  .ret (.cmp .eq (.sorted (.var 35)) (.sorted (.comp2 (.tup [.bin .sub (.var 36) (.var 38), .var 38]) 38 (.range (.len (.var 37))) 19 (.range (.idx (.var 37) (.var 38))) [36, 37])))]

noncomputable def fns : Nat → Option Fn
  | 0 => some ⟨[0], drawnB⟩
  | 1 => some ⟨[3], kindsB⟩
  | 2 => some ⟨[3, 4], mailB⟩
  | 3 => some ⟨[11], depthsB⟩
  | 4 => some ⟨[4], websB⟩
  | 5 => some ⟨[18], toldB⟩
  | 6 => some ⟨[18], pairsB⟩
  | 7 => some ⟨[32], spreadB⟩
  | _ => none
end Mine
open PySem PySem.W PyProof.Rows
namespace Mine
noncomputable def RunInvN (M : Model) (Γ : Ctx) (p : Pos) (s : Shared) (e : End) (s' : Shared) : Sem PySem.Fin → Prop
  | .pure (.done f) => End.ret (.ok f) = e ∧ s = s'
  | .pure (.again c) => Runs M (Γ.goto c) p (M.den c) [] s e s'
  | .raise x => End.ret (.error x) = e ∧ s = s'
  | .rule _ k => Runs M Γ p (k ()) [] s e s'
  | .at p' k => Runs M Γ p' (k ()) [] s e s'
  | .load a _ k => ∀ o, s.heap.get? a = some o → Runs M Γ p (k o) [] s e s'
  | .update a _ f k => Runs M Γ p (k ()) [] { s with heap := s.heap.update a f } e s'
  | .loadIfAlive a k => Runs M Γ p (k (s.heap.get? a)) [] s e s'
  | .point _ k => Runs M Γ p (k ()) [] s e s'
  | .alloc o k => Runs M Γ p (k s.heap.objs.size) [] { s with heap := s.heap.push o } e s'
  | .fresh k => Runs M Γ p (k s.toks) [] { s with toks := s.toks + 1 } e s'
  | .ask k => Runs M Γ p (k ⟨M.prog, M.w.params⟩) [] s e s'
  | .choose src n k => Runs M Γ p (k (M.w.draws src (s.drawn.get src) % n)) [] { s with drawn := s.drawn.bump src } e s'
  | .os q _ k => Runs M Γ p (k (Os.step s.os q).2) [] { s with os := (Os.step s.os q).1 } e s'
  | .handled own k => Runs M Γ p (k (if own then Γ.own else Γ.handled)) [] s e s'
  | .genState g k => ∀ st, s.gens[g]? = some st → Runs M Γ p (k st.seen) [] s e s'
  | .stack k => Runs M Γ p (k ((Γ.code, p) :: Γ.below)) [] s e s'
  | .thread k => Runs M Γ p (k 0) [] s e s'
  | .newGen c k => Runs M Γ p (k s.gens.size) [] { s with gens := s.gens.push (.fresh c) } e s'
  | .call c h g l k => ∃ e₁ s₁, Runs M (Γ.enter c h p) p (M.den c) [] s e₁ s₁ ∧ match e₁ with
      | .ret r => Runs M Γ p (k r) [] s₁ e s'
      | .susp v g₀ l₀ k₀ c₀ p₀ fs => End.susp v g₀ l₀ k₀ c₀ p₀ (fs ++ [.ret k h g l Γ.code p []]) = e ∧ s₁ = s'
  | .yield v g l k => End.susp v g l k Γ.code p [] = e ∧ s = s'
  | .resume g r _ k => ∃ res s₁, Wakes M Γ p g r s res s₁ ∧ Runs M Γ p (k res) [] s₁ e s'
  | _ => False
noncomputable def RunAfter (M : Model) (Γ : Ctx) (F : Frame) (fs : List Frame) (s₁ : Shared) (e : End) (s' : Shared) : End → Prop
  | .ret r => match F with
    | .ret k _ _ _ c₁ p₁ _ => Runs M (Γ.goto c₁) p₁ (k r) fs s₁ e s'
    | .gen g k _ c₁ p₁ => Runs M (Γ.goto c₁) p₁ (k (End.ret r).result) fs (s₁.setGen g .finished) e s'
  | .susp v g₀ l₀ k₀ c₀ p₀ fs₀ => match splitAtGen (F :: fs) with
    | none => End.susp v g₀ l₀ k₀ c₀ p₀ (fs₀ ++ F :: fs) = e ∧ s₁ = s'
    | some (pre, (g, k, c₁, p₁), rest) => Runs M (Γ.goto c₁) p₁ (k (.yielded v)) rest (s₁.setGen g (End.susp v g₀ l₀ k₀ c₀ p₀ (fs₀ ++ pre)).genState) e s'
noncomputable def RunInv (M : Model) (Γ : Ctx) (p : Pos) (t : Sem PySem.Fin) (s : Shared) (e : End) (s' : Shared) : List Frame → Prop
  | [] => RunInvN M Γ p s e s' t
  | F :: fs => ∃ e₁ s₁, Runs M (Γ.over (F :: fs)) p t [] s e₁ s₁ ∧ RunAfter M Γ F fs s₁ e s' e₁
theorem wakes_just {M : Model} {Γ : Ctx} {p : Pos} {g : Nat} {v : Value} {c : Code} {s s₁ : Shared} {res : GenResult} (hg : s.gens[g]? = some (.fresh c)) (hv : v ≠ .none) : Wakes M Γ p g (.send v) s res s₁ = (res = .justStarted ∧ s₁ = s) := by
  unfold Wakes; rw [hg]; cases v <;> first | exact absurd rfl hv | rfl
theorem runs_invert {M : Model} {Γ : Ctx} {p : Pos} {t : Sem PySem.Fin} {fs : List Frame} {s : Shared} {e : End} {s' : Shared} (h : Runs M Γ p t fs s e s') : RunInv M Γ p t s e s' fs := by
  induction h with
  | done => exact ⟨rfl, rfl⟩
  | raise => exact ⟨rfl, rfl⟩
  | again _ h _ => exact h
  | rule h _ => exact h
  | «at» h _ => exact h
  | load ho h _ => exact fun o ho' => Option.some.inj (ho.symm.trans ho') ▸ h
  | update _ h _ => exact h
  | loadIfAlive h _ => exact h
  | point h _ => exact h
  | alloc h _ => exact h
  | fresh h _ => exact h
  | ask h _ => exact h
  | choose _ h _ => exact h
  | os h _ => exact h
  | handled h _ => exact h
  | genState hg h _ => exact fun o ho' => Option.some.inj (hg.symm.trans ho') ▸ h
  | stack h _ => exact h
  | thread h _ => exact h
  | newGen h _ => exact h
  | call h₁ h₂ _ _ => exact ⟨_, _, h₁, h₂⟩
  | callSusp h₁ _ => exact ⟨_, _, h₁, rfl, rfl⟩
  | yield => exact ⟨rfl, rfl⟩
  | resumeFresh hg h₁ hq h₂ _ _ => exact ⟨_, _, by unfold Wakes; rw [hg]; exact ⟨_, _, h₁, hq, rfl, rfl⟩, h₂⟩
  | resumeSuspended hg h₁ hq h₂ _ _ => exact ⟨_, _, by unfold Wakes; rw [hg]; exact ⟨_, _, h₁, hq, rfl, rfl⟩, h₂⟩
  | resumeJustStarted hg hv h _ => exact ⟨_, _, by rw [wakes_just hg hv]; exact ⟨rfl, rfl⟩, h⟩
  | resumeThrowFresh hg h _ => exact ⟨_, _, by unfold Wakes; rw [hg]; exact ⟨rfl, rfl⟩, h⟩
  | resumeRunning hg h _ => exact ⟨_, _, by unfold Wakes; rw [hg]; exact ⟨rfl, rfl⟩, h⟩
  | resumeFinished hg h _ => exact ⟨_, _, by unfold Wakes; rw [hg]; exact ⟨rfl, rfl⟩, h⟩
  | segRet h₁ h₂ _ _ => exact ⟨_, _, h₁, h₂⟩
  | segGen h₁ h₂ _ _ => exact ⟨_, _, h₁, h₂⟩
  | segSuspOut hn h₁ _ => exact ⟨_, _, h₁, by unfold RunAfter; rw [hn]; exact ⟨rfl, rfl⟩⟩
  | segSuspGen hn h₁ _ h₂ _ _ => exact ⟨_, _, h₁, by unfold RunAfter; rw [hn]; exact h₂⟩
theorem runs_det {M : Model} {Γ : Ctx} {p : Pos} {t : Sem PySem.Fin} {fs : List Frame} {s : Shared} {e : End} {s' : Shared} (h : Runs M Γ p t fs s e s') :
    ∀ {e' s''}, Runs M Γ p t fs s e' s'' → e = e' ∧ s' = s'' := by
  induction h with
  | done => exact fun h' => runs_invert h'
  | raise => exact fun h' => runs_invert h'
  | again _ _ ih => exact fun h' => ih (runs_invert h')
  | rule _ ih => exact fun h' => ih (runs_invert h')
  | «at» _ ih => exact fun h' => ih (runs_invert h')
  | load ho _ ih => exact fun h' => ih (runs_invert h' _ ho)
  | update _ _ ih => exact fun h' => ih (runs_invert h')
  | loadIfAlive _ ih => exact fun h' => ih (runs_invert h')
  | point _ ih => exact fun h' => ih (runs_invert h')
  | alloc _ ih => exact fun h' => ih (runs_invert h')
  | fresh _ ih => exact fun h' => ih (runs_invert h')
  | ask _ ih => exact fun h' => ih (runs_invert h')
  | choose _ _ ih => exact fun h' => ih (runs_invert h')
  | os _ ih => exact fun h' => ih (runs_invert h')
  | handled _ ih => exact fun h' => ih (runs_invert h')
  | genState hg _ ih => exact fun h' => ih (runs_invert h' _ hg)
  | stack _ ih => exact fun h' => ih (runs_invert h')
  | thread _ ih => exact fun h' => ih (runs_invert h')
  | newGen _ ih => exact fun h' => ih (runs_invert h')
  | call _ _ ih₁ ih₂ => intro e' s'' h'; obtain ⟨e₁, s₁, h₁, h₂⟩ := runs_invert h'; obtain ⟨a, b⟩ := ih₁ h₁; subst a b; exact ih₂ h₂
  | callSusp _ ih₁ => intro e' s'' h'; obtain ⟨e₁, s₁, h₁, h₂⟩ := runs_invert h'; obtain ⟨a, b⟩ := ih₁ h₁; subst a b; exact h₂
  | yield => exact fun h' => runs_invert h'
  | resumeFresh hg _ _ _ ih₁ ih₂ =>
    intro e' s'' h'
    obtain ⟨res, t, hw, h₂⟩ := runs_invert h'
    unfold Wakes at hw; rw [hg] at hw
    obtain ⟨e₂, t₂, h₁, _, rfl, rfl⟩ := hw
    obtain ⟨a, b⟩ := ih₁ h₁; subst a b; exact ih₂ h₂
  | resumeSuspended hg _ _ _ ih₁ ih₂ =>
    intro e' s'' h'
    obtain ⟨res, t, hw, h₂⟩ := runs_invert h'
    unfold Wakes at hw; rw [hg] at hw
    obtain ⟨e₂, t₂, h₁, _, rfl, rfl⟩ := hw
    obtain ⟨a, b⟩ := ih₁ h₁; subst a b; exact ih₂ h₂
  | resumeJustStarted hg hv _ ih =>
    intro e' s'' h'
    obtain ⟨res, t, hw, h₂⟩ := runs_invert h'
    rw [wakes_just hg hv] at hw
    obtain ⟨rfl, rfl⟩ := hw
    exact ih h₂
  | resumeThrowFresh hg _ ih =>
    intro e' s'' h'
    obtain ⟨res, t, hw, h₂⟩ := runs_invert h'
    unfold Wakes at hw; rw [hg] at hw
    obtain ⟨rfl, rfl⟩ := hw
    exact ih h₂
  | resumeRunning hg _ ih =>
    intro e' s'' h'
    obtain ⟨res, t, hw, h₂⟩ := runs_invert h'
    unfold Wakes at hw; rw [hg] at hw
    obtain ⟨rfl, rfl⟩ := hw
    exact ih h₂
  | resumeFinished hg _ ih =>
    intro e' s'' h'
    obtain ⟨res, t, hw, h₂⟩ := runs_invert h'
    unfold Wakes at hw; rw [hg] at hw
    obtain ⟨rfl, rfl⟩ := hw
    exact ih h₂
  | segRet _ _ ih₁ ih₂ => intro e' s'' h'; obtain ⟨e₁, s₁, h₁, h₂⟩ := runs_invert h'; obtain ⟨a, b⟩ := ih₁ h₁; subst a b; exact ih₂ h₂
  | segGen _ _ ih₁ ih₂ => intro e' s'' h'; obtain ⟨e₁, s₁, h₁, h₂⟩ := runs_invert h'; obtain ⟨a, b⟩ := ih₁ h₁; subst a b; exact ih₂ h₂
  | segSuspOut hn _ ih₁ => intro e' s'' h'; obtain ⟨e₁, s₁, h₁, h₂⟩ := runs_invert h'; obtain ⟨a, b⟩ := ih₁ h₁; subst a b; unfold RunAfter at h₂; rw [hn] at h₂; exact h₂
  | segSuspGen hn _ _ _ ih₁ ih₂ => intro e' s'' h'; obtain ⟨e₁, s₁, h₁, h₂⟩ := runs_invert h'; obtain ⟨a, b⟩ := ih₁ h₁; subst a b; unfold RunAfter at h₂; rw [hn] at h₂; exact ih₂ h₂

theorem wakes_det {M : Model} {Γ : Ctx} {p : Pos} {g : Nat} {r : Resume} {s : Shared} {res res' : GenResult} {s₁ s₂ : Shared} (h : Wakes M Γ p g r s res s₁) (h' : Wakes M Γ p g r s res' s₂) : res = res' ∧ s₁ = s₂ := by
  cases hg : s.gens[g]? with
  | none => unfold Wakes at h; rw [hg] at h; exact h.elim
  | some gs =>
    cases gs with
    | fresh c =>
      cases r with
      | send v =>
        by_cases hv : v = .none
        · subst hv
          unfold Wakes at h h'; rw [hg] at h h'
          obtain ⟨e₁, t₁, a, _, rfl, rfl⟩ := h
          obtain ⟨e₂, t₂, b, _, rfl, rfl⟩ := h'
          obtain ⟨rfl, rfl⟩ := runs_det a b
          exact ⟨rfl, rfl⟩
        · rw [wakes_just hg hv] at h h'
          exact ⟨h.1.trans h'.1.symm, h.2.trans h'.2.symm⟩
      | throw x => unfold Wakes at h h'; rw [hg] at h h'; exact ⟨h.1.trans h'.1.symm, h.2.trans h'.2.symm⟩
    | suspended =>
      unfold Wakes at h h'; rw [hg] at h h'
      obtain ⟨e₁, t₁, a, _, rfl, rfl⟩ := h
      obtain ⟨e₂, t₂, b, _, rfl, rfl⟩ := h'
      obtain ⟨rfl, rfl⟩ := runs_det a b
      exact ⟨rfl, rfl⟩
    | running => unfold Wakes at h h'; rw [hg] at h h'; exact ⟨h.1.trans h'.1.symm, h.2.trans h'.2.symm⟩
    | finished => unfold Wakes at h h'; rw [hg] at h h'; exact ⟨h.1.trans h'.1.symm, h.2.trans h'.2.symm⟩
theorem wp_all {α ι : Type} [hι : Nonempty ι] {M : Model} {Γ : Ctx} (t : Sem α) {Q : ι → α → Pos → Shared → Prop} {E : ι → Value → Pos → Shared → Prop} :
    ∀ {p : Pos} {s : Shared}, (∀ i, Sem.wp M Γ t (Q i) (E i) p s) → Sem.wp M Γ t (fun a p s => ∀ i, Q i a p s) (fun e p s => ∀ i, E i e p s) p s := by
  induction t with
  | pure a => intro p s h i; exact h i
  | raise a => intro p s h i; exact h i
  | unsupported => intro p s h; exact h (Classical.choice hι)
  | finish => intro p s h; exact h (Classical.choice hι)
  | yield => intro p s h; exact h (Classical.choice hι)
  | fork => intro p s h; exact h (Classical.choice hι)
  | await => intro p s h; exact h (Classical.choice hι)
  | register => intro p s h; exact h (Classical.choice hι)
  | rule _ k ih => intro p s h; exact ih () h
  | «at» _ k ih => intro p s h; exact ih () h
  | load a part k ih =>
    intro p s h
    obtain ⟨o, ho, _⟩ := h (Classical.choice hι)
    refine ⟨o, ho, ih o fun i => ?_⟩
    obtain ⟨o', ho', h'⟩ := h i
    rw [ho] at ho'; cases ho'; exact h'
  | update a part f k ih => intro p s h; exact ⟨(h (Classical.choice hι)).1, ih () fun i => (h i).2⟩
  | alloc o k ih => intro p s h; exact ih _ h
  | loadIfAlive a k ih => intro p s h; exact ih _ h
  | point _ k ih => intro p s h; exact ih _ h
  | fresh k ih => intro p s h; exact ih _ h
  | ask k ih => intro p s h; exact ih _ h
  | choose src n k ih => intro p s h; exact ⟨(h (Classical.choice hι)).1, ih _ fun i => (h i).2⟩
  | os q l k ih => intro p s h; exact ih _ h
  | call c hd g l k ih =>
    intro p s h
    obtain ⟨r, s', hr, _⟩ := h (Classical.choice hι)
    refine ⟨r, s', hr, ih r fun i => ?_⟩
    obtain ⟨r', s'', hr', h'⟩ := h i
    obtain ⟨a, b⟩ := runs_det hr hr'
    cases a; cases b; exact h'
  | handled own k ih => intro p s h; exact ih _ h
  | newGen c k ih => intro p s h; exact ih _ h
  | genState g k ih =>
    intro p s h
    obtain ⟨o, ho, _⟩ := h (Classical.choice hι)
    refine ⟨o, ho, ih _ fun i => ?_⟩
    obtain ⟨o', ho', h'⟩ := h i
    rw [ho] at ho'; cases ho'; exact h'
  | resume g r l k ih =>
    intro p s h
    obtain ⟨res, s', hw, _⟩ := h (Classical.choice hι)
    refine ⟨res, s', hw, ih _ fun i => ?_⟩
    obtain ⟨res', s'', hw', h'⟩ := h i
    obtain ⟨rfl, rfl⟩ := wakes_det hw hw'
    exact h'
  | stack k ih => intro p s h; exact ih _ h
  | thread k ih => intro p s h; exact ih _ h

theorem wpAny_all {α ι : Type} [Nonempty ι] {M : Model} {A : Around} {t : Sem α} {Q : ι → α → Shared → Prop} {s : Shared} (h : ∀ i, wpAny M A t (Q i) (fun _ _ => False) s) :
    wpAny M A t (fun a s => ∀ i, Q i a s) (fun _ _ => False) s := fun Γ p hΓ =>
  Sem.wp_mono M Γ t (fun _ _ _ h => h) (fun _ _ _ h => h (Classical.choice inferInstance)) p s (wp_all t fun i => h i Γ p hΓ)
theorem wpAny_and {α : Type} {M : Model} {A : Around} {t : Sem α} {Q Q' : α → Shared → Prop} {s : Shared} (h : wpAny M A t Q (fun _ _ => False) s) (h' : wpAny M A t Q' (fun _ _ => False) s) :
    wpAny M A t (fun a s => Q a s ∧ Q' a s) (fun _ _ => False) s :=
  wpAny_mono (wpAny_all (ι := Bool) (Q := fun b => if b then Q else Q') fun b => by cases b <;> simp [h, h']) (fun a s hh => ⟨by simpa using hh true, by simpa using hh false⟩) fun _ _ e => e

end Mine
open PySem PySem.W PyProof.Rows
namespace Mine

section
variable {prog : Program} {w : World} {A : Around} {s : Shared} {X : List Addr}

theorem okLen_le {n : Nat} (h : okLen n = true) : n ≤ lim := Nat.le_of_ble_eq_true h
theorem okLen_size {n : Nat} (h : okLen n = true) : n ≤ sizeLine := Nat.le_trans (okLen_le h) (by rw [sizeLine_eq]; decide)
theorem okInt_abs {i : Int} (h : okInt i = true) : i.natAbs ≤ 1000000000 := Nat.le_of_ble_eq_true h
theorem okInt_lo {i : Int} (h : okInt i = true) : -1000000000 ≤ i := by have := okInt_abs h; omega
theorem okInt_hi {i : Int} (h : okInt i = true) : i ≤ 1000000000 := by have := okInt_abs h; omega

noncomputable def opOf : Op2 → Operator
  | .add => .Add
  | .sub => .Sub
  | .mul => .Mult
  | .fdiv => .FloorDiv
  | .mod => .Mod
noncomputable def cmOf : Cm → CmpOp
  | .lt => .Lt
  | .gt => .Gt
  | .eq => .Eq
  | .ne => .NotEq

theorem Kp.tok {s : Shared} (k : Nat) : Kp s { s with toks := k } := ⟨s.heap, k, rfl, fun _ _ e => e⟩
theorem Kp.psh {s : Shared} (o : Obj) (k : Nat) : Kp s { s with heap := s.heap.push o, toks := k } := ⟨s.heap.push o, k, rfl, Ext.push _ _⟩
theorem Kp.psh0 {s : Shared} (o : Obj) : Kp s { s with heap := s.heap.push o } := ⟨s.heap.push o, s.toks, rfl, Ext.push _ _⟩

theorem Rel.int_inv {h : Heap} {v : Value} {i : Int} (r : Rel X h v (.int i)) : ∃ t, v = .int i t := by cases r; exact ⟨_, rfl⟩
theorem Rel.str_inv {h : Heap} {v : Value} {x : Str} (r : Rel X h v (.str x)) : ∃ t, v = .str x t := by cases r; exact ⟨_, rfl⟩
theorem Rel.bytes_inv {h : Heap} {v : Value} {x : Array UInt8} (r : Rel X h v (.bytes x)) : ∃ t, v = .bytes x t := by cases r; exact ⟨_, rfl⟩
theorem Rel.lst_inv {h : Heap} {v : Value} {ds : List D} (r : Rel X h v (.lst ds)) : ∃ a vs, v = .ref a ∧ a ∉ X ∧ h.IsList a vs.toArray ∧ RelL X h vs ds := by cases r; exact ⟨_, _, rfl, by assumption, by assumption, by assumption⟩
theorem Rel.tup_inv {h : Heap} {v : Value} {ds : List D} (r : Rel X h v (.tup ds)) : ∃ a vs, v = .ref a ∧ IsTup h a vs.toArray ∧ RelL X h vs ds := by cases r; exact ⟨_, _, rfl, by assumption, by assumption⟩
theorem Rel.newList {h : Heap} (hX : ∀ a ∈ X, a < h.objs.size) {vs : List Value} {ds : List D} (r : RelL X h vs ds) : Rel X (h.push { cls := .type "list", data := .seq vs.toArray }) (.ref h.objs.size) (.lst ds) :=
  .lst (fun hm => Nat.lt_irrefl _ (hX _ hm)) ⟨_, Heap.get?_push_size _ rfl, rfl, _, rfl⟩ (r.ext (Ext.push _ _))
theorem Rel.newTup {h : Heap} {vs : List Value} {ds : List D} (r : RelL X h vs ds) : Rel X (h.push { cls := .type "tuple", data := .seq vs.toArray }) (.ref h.objs.size) (.tup ds) :=
  .tup ⟨_, Heap.get?_push_size _ rfl, rfl, _, rfl⟩ (r.ext (Ext.push _ _))

theorem list_add {l b : Addr} {vs ws : List Value} {Q : Value → Shared → Prop} {E : Value → Shared → Prop} (hl : s.heap.IsList l vs.toArray) (hb : s.heap.IsList b ws.toArray)
    (h : Q (.ref s.heap.objs.size) { s with heap := s.heap.push { cls := .type "list", data := .seq (vs ++ ws).toArray } }) (hsz : vs.length + ws.length ≤ sizeLine) :
    wpAny (model prog w) A (binaryOp .Add (.ref l) (.ref b)) Q E s := by
  obtain ⟨⟨c1, d1, t1, sl1⟩, ho1, hc1, n1, hd1⟩ := id hl
  obtain ⟨⟨c2, d2, t2, sl2⟩, ho2, hc2, n2, hd2⟩ := id hb
  simp only at hc1 hd1 hc2 hd2
  subst hc1 hd1 hc2 hd2
  refine concat_meets ⟨_, ho1, rfl⟩ ⟨_, ho2, rfl⟩ noFill_list_add seq_list_add PySem.F.slot_list_add PySem.F.entry_list_add (PySem.F.args_list_add_2 _ _)
    (list_addW l b vs.toArray ws.toArray n1 n2 d1 d2 sl1 sl2 (by simpa using hsz)) ⟨ho1, ho2, ?_⟩
  rw [show vs.toArray ++ ws.toArray = (vs ++ ws).toArray by simp]
  exact h

theorem Txt_mul_small {x : Str} {n : Int} (hx : x.length ≤ lim) (hn : okInt n = true) (h : x.length * n.toNat ≤ lim) : MulOk x n := by
  have h1 := okInt_lo hn
  have h2 := okInt_hi hn
  have hl : lim = 100000 := rfl
  refine ⟨?_, fun hp _ => ?_, fun _ _ => ?_⟩
  · simp; omega
  · have : (x.length : Int) ≤ 100000 := by omega
    have q : (9223372036 : Int) ≤ (2 ^ 63 - 1) / n := by
      have hn0 : 0 < n := by omega
      rw [Int.le_ediv_iff_mul_le hn0]
      omega
    omega
  · unfold Builtin.Str.tooLong; rw [sizeLine_eq]; simp; omega

theorem int2_some {f : Int → Int → Option D} {a b d : D} (h : int2 f a b = some d) : ∃ x y, a = .int x ∧ b = .int y ∧ f x y = some d := by
  unfold int2 at h
  split at h
  · exact ⟨_, _, rfl, rfl, h⟩
  · cases h
theorem bin_ok {o : Op2} {a b d : D} {va vb : Value} (hX : ∀ a ∈ X, a < s.heap.objs.size) (h : binD o a b = some d) (ra : Rel X s.heap va a) (rb : Rel X s.heap vb b) :
    wpAny (model prog w) A (binaryOp (opOf o) va vb) (EP X d s) noE s := by
  cases o with
  | add =>
    replace h : addD a b = some d := h
    unfold addD at h
    split at h
    · cases h; obtain ⟨t, rfl⟩ := ra.int_inv; obtain ⟨u, rfl⟩ := rb.int_inv
      exact PySem.P.add_int ⟨Kp.tok _, .int _ _⟩
    · rename_i x y
      cases hc : okLen (x.length + y.length) <;> rw [hc] at h <;> cases h
      obtain ⟨t, rfl⟩ := ra.str_inv; obtain ⟨u, rfl⟩ := rb.str_inv
      refine PySem.P.add_str ?_
      by_cases hx : x.length == 0
      · rw [if_pos hx]
        have e : x ++ y = y := by
          have : x.cps = #[] := by simpa [Str.length] using hx
          apply Str.ext'; rw [Str.cps_append, this]; simp
        rw [e]; exact ⟨Kp.rfl' _, .str _ _⟩
      · rw [if_neg hx]
        by_cases hy : y.length == 0
        · rw [if_pos hy]
          have e : x ++ y = x := by
            have : y.cps = #[] := by simpa [Str.length] using hy
            apply Str.ext'; rw [Str.cps_append, this]; simp
          rw [e]; exact ⟨Kp.rfl' _, .str _ _⟩
        · rw [if_neg hy]
          refine ⟨?_, Kp.tok _, .str _ _⟩
          have := okLen_size hc
          rw [Str.length_append]; exact this
    · rename_i x y
      cases hc : okLen (x.length + y.length) <;> rw [hc] at h <;> cases h
      obtain ⟨l, vs, rfl, hl, il, rl⟩ := ra.lst_inv
      obtain ⟨b, ws, rfl, hb, ib, rb⟩ := rb.lst_inv
      refine list_add il ib ⟨Kp.psh0 _, Rel.newList hX (rl.append rb)⟩ ?_
      rw [rl.length, rb.length]; exact okLen_size hc
    · cases h
  | sub =>
    replace h := int2_some h
    obtain ⟨x, y, rfl, rfl, h⟩ := h
    cases h; obtain ⟨t, rfl⟩ := ra.int_inv; obtain ⟨u, rfl⟩ := rb.int_inv
    exact PySem.P.sub_int ⟨Kp.tok _, .int _ _⟩
  | mul =>
    replace h : mulD a b = some d := h
    unfold mulD at h
    split at h
    · rename_i x n
      cases hc : okLen (x.length * n.toNat) && okLen x.length && okInt n <;> rw [hc] at h <;> cases h
      simp only [Bool.and_eq_true] at hc
      obtain ⟨t, rfl⟩ := ra.str_inv; obtain ⟨u, rfl⟩ := rb.int_inv
      exact PySem.SB.mul (Txt_mul_small (okLen_le hc.1.2) hc.2 (okLen_le hc.1.1)) fun t' k => ⟨Kp.tok _, .str _ _⟩
    · cases h
  | fdiv =>
    replace h := int2_some h
    obtain ⟨x, y, rfl, rfl, h⟩ := h
    cases hc : okInt x && okInt y && !(y == 0) <;> rw [hc] at h <;> cases h
    simp only [Bool.and_eq_true, Bool.not_eq_true', beq_eq_false_iff_ne] at hc
    obtain ⟨t, rfl⟩ := ra.int_inv; obtain ⟨u, rfl⟩ := rb.int_inv
    exact PyProof.Rows.floordiv_int hc.2 ⟨Kp.tok _, .int _ _⟩ (Or.inl (PyProof.noPylong_small (by have := okInt_abs hc.1.2; omega)))
  | mod =>
    replace h := int2_some h
    obtain ⟨x, y, rfl, rfl, h⟩ := h
    cases hc : (y == 0) <;> rw [hc] at h <;> cases h
    obtain ⟨t, rfl⟩ := ra.int_inv; obtain ⟨u, rfl⟩ := rb.int_inv
    exact PyProof.Rows.mod_int' (by simpa using hc) ⟨Kp.tok _, .int _ _⟩

end
end Mine
open PySem PySem.W PyProof.Rows PySem.Spec
namespace Mine

mutual
theorem rel_reads {X : List Addr} {h : Heap} : ∀ {v : Value} {d : D} (n : Nat), Rel X h v d → pyOk n d = true → ∃ as, Reads h v d.toP as
  | _, _, _, .none, hk => by rename_i n; cases n <;> simp [pyOk] at hk
  | _, _, _, .bool b, hk => by rename_i n; cases n <;> simp [pyOk] at hk
  | _, _, _, .int i t, _ => ⟨_, Reads.int i t⟩
  | _, _, _, .str x t, hk => by rename_i n; cases n <;> simp [pyOk] at hk
  | _, _, _, .bytes _ _, hk => by rename_i n; cases n <;> simp [pyOk] at hk
  | _, _, 0, .tup _ _, hk => by simp [pyOk] at hk
  | _, _, 0, .lst _ _ _, hk => by simp [pyOk] at hk
  | _, _, n + 1, .tup ht r, hk => by
    obtain ⟨as, q⟩ := rel_readsL n r (by simpa [pyOk] using hk)
    obtain ⟨o, ho, hc, k, hd⟩ := ht
    rw [D.toP]
    exact ⟨as, reads_tuple_at ho hc hd (by simpa using q)⟩
  | _, _, n + 1, .lst _ hl r, hk => by
    obtain ⟨as, q⟩ := rel_readsL n r (by simpa [pyOk] using hk)
    obtain ⟨o, ho, hc, k, hd⟩ := hl
    rw [D.toP]
    exact ⟨_, reads_list_at ho hc hd (by simpa using q)⟩
theorem rel_readsL {X : List Addr} {h : Heap} : ∀ {vs : List Value} {ds : List D} (n : Nat), RelL X h vs ds → (∀ d ∈ ds, pyOk n d = true) → ∃ as, ReadsAll h vs (D.toPs ds) as
  | _, _, _, .nil, _ => ⟨_, ReadsAll.nil⟩
  | _, _, n, .cons hd r, hk => by
    obtain ⟨as, q⟩ := rel_reads n hd (hk _ (.head _))
    obtain ⟨bs, p⟩ := rel_readsL n r fun d hm => hk d (.tail _ hm)
    rw [D.toPs]
    exact ⟨_, ReadsAll.cons q p⟩
end
theorem pyOk_lay : ∀ (n : Nat) (d : D), pyOk n d = true → d.toP.canLay0 = true ∧ d.toP.depth ≤ n := by
  have all : ∀ (n : Nat), (∀ d, pyOk n d = true → d.toP.canLay0 = true ∧ d.toP.depth ≤ n) → ∀ ds : List D, (∀ d ∈ ds, pyOk n d = true) → PyData.canLayAll0 (D.toPs ds) = true ∧ PyData.depthAll (D.toPs ds) ≤ n := by
    intro n ih ds
    induction ds with
    | nil => intro _; simp [D.toPs, PyData.canLayAll0, PyData.depthAll]
    | cons d ds hi =>
      intro h
      have h1 := ih d (h d (.head _))
      have h2 := hi fun e he => h e (.tail _ he)
      simp only [D.toPs, PyData.canLayAll0, PyData.depthAll, h1.1, h2.1, Bool.and_self, true_and]
      have a1 := h1.2
      have a2 := h2.2
      omega
  intro n
  induction n with
  | zero =>
    intro d h
    cases d <;> simp_all [pyOk, D.toP, PyData.canLay0, PyData.depth]
  | succ n ih =>
    intro d h
    cases d with
    | none => simp [pyOk] at h
    | bool b => simp [pyOk] at h
    | int i => simp [D.toP, PyData.canLay0, PyData.depth]
    | str x => simp [pyOk] at h
    | bytes b => simp [pyOk] at h
    | tup ds =>
      have q := all n ih ds (by simpa [pyOk] using h)
      have q2 := q.2
      simp only [D.toP, PyData.canLay0, PyData.depth, q.1, true_and]
      omega
    | lst ds =>
      have q := all n ih ds (by simpa [pyOk] using h)
      have q2 := q.2
      simp only [D.toP, PyData.canLay0, PyData.depth, q.1, true_and]
      omega
theorem pyOk_shaped {n : Nat} {d : D} (hn : n ≤ 64) (h : pyOk n d = true) : SeqAt.shaped d.toP = true := by
  have q := pyOk_lay n d h
  unfold SeqAt.shaped
  rw [q.1, Bool.true_and]
  exact decide_eq_true (Nat.le_trans q.2 hn)

section
variable {prog : Program} {w : World} {A : Around} {s : Shared} {X : List Addr}

theorem cmpI_some {f : Int → Int → Bool} {a b : D} {r : Bool} (h : cmpI f a b = some r) : ∃ x y, a = .int x ∧ b = .int y ∧ f x y = r := by
  unfold cmpI at h
  split at h
  · exact ⟨_, _, rfl, rfl, Option.some.inj h⟩
  · cases h
theorem cmp_ok {c : Cm} {a b : D} {r : Bool} {va vb : Value} {Q : Value → Shared → Prop} {E : Value → Shared → Prop} (hu : A.units + 64 < cLine) (h : cmpD c a b = some r) (ra : Rel X s.heap va a) (rb : Rel X s.heap vb b)
    (hQ : Q (.bool r) s) : wpAny (model prog w) A (compareOp (cmOf c) va vb) Q E s := by
  cases c with
  | lt => replace h := cmpI_some h; obtain ⟨x, y, rfl, rfl, rfl⟩ := h; obtain ⟨t, rfl⟩ := ra.int_inv; obtain ⟨u, rfl⟩ := rb.int_inv; exact PySem.P.lt_int hQ
  | gt => replace h := cmpI_some h; obtain ⟨x, y, rfl, rfl, rfl⟩ := h; obtain ⟨t, rfl⟩ := ra.int_inv; obtain ⟨u, rfl⟩ := rb.int_inv; exact PySem.P.gt_int hQ
  | eq =>
    replace h : eqD a b = some r := h
    unfold eqD at h
    split at h
    · cases h; obtain ⟨t, rfl⟩ := ra.int_inv; obtain ⟨u, rfl⟩ := rb.int_inv; exact PySem.P.eq_int hQ
    · rename_i x y
      cases hc : pyOk 8 (.lst x) && pyOk 8 (.lst y) <;> rw [hc] at h <;> cases h
      simp only [Bool.and_eq_true] at hc
      obtain ⟨as, qa⟩ := rel_reads 8 ra hc.1
      obtain ⟨bs, qb⟩ := rel_reads 8 rb hc.2
      exact eq_dataH qa qb (pyOk_shaped (by decide) hc.1) (pyOk_shaped (by decide) hc.2) hu hQ
    · cases h
  | ne =>
    replace h : neD a b = some r := h
    unfold neD at h
    split at h
    · cases h; obtain ⟨t, rfl⟩ := ra.int_inv; obtain ⟨u, rfl⟩ := rb.int_inv; exact PySem.P.ne_int hQ
    · cases h; obtain ⟨t, rfl⟩ := ra.bytes_inv; obtain ⟨u, rfl⟩ := rb.bytes_inv; exact ne_bytes hQ
    · rename_i x y
      cases hc : pyOk 8 (.lst x) && pyOk 8 (.lst y) <;> rw [hc] at h <;> cases h
      simp only [Bool.and_eq_true] at hc
      obtain ⟨as, qa⟩ := rel_reads 8 ra hc.1
      obtain ⟨bs, qb⟩ := rel_reads 8 rb hc.2
      exact ne_dataH qa qb (pyOk_shaped (by decide) hc.1) (pyOk_shaped (by decide) hc.2) hu hQ
    · cases h

theorem nth_get {i : Int} {ds : List D} {d : D} (h : nth? i ds = some d) : (0 ≤ i ∧ ds[i.toNat]? = some d) ∨ (i < 0 ∧ -(ds.length : Int) ≤ i ∧ ds[(i + ds.length).toNat]? = some d) := by
  unfold nth? at h
  cases i with
  | ofNat k => exact .inl ⟨Int.natCast_nonneg k, by simpa using h⟩
  | negSucc k =>
    right
    simp only at h
    cases hb : Nat.ble (k + 1) ds.length <;> rw [hb] at h
    · cases h
    · have hk := Nat.le_of_ble_eq_true hb
      have hk' : (Int.negSucc k : Int) = -((k : Int) + 1) := rfl
      refine ⟨by omega, by omega, ?_⟩
      have : (Int.negSucc k + (ds.length : Int)).toNat = ds.length - (k + 1) := by omega
      rw [this]; exact h

theorem idx_ok {a b d : D} {va vb : Value} (h : idxD a b = some d) (ra : Rel X s.heap va a) (rb : Rel X s.heap vb b) {value slice : Expr} (hslice : ∀ o i, subscripted slice false o i = operate [o, i] (getItem o i)) :
    wpAny (model prog w) A (subscriptTail value slice va vb) (EP X d s) noE s := by
  unfold idxD at h
  split at h
  · rename_i ds i
    cases hc : okInt i <;> rw [hc] at h
    · cases h
    obtain ⟨l, vs, rfl, hl, il, rl⟩ := ra.lst_inv
    obtain ⟨u, rfl⟩ := rb.int_inv
    have h1 := okInt_lo hc
    have h2 := okInt_hi hc
    rcases nth_get h with ⟨h0, hg⟩ | ⟨h0, h0', hg⟩
    · obtain ⟨v, hv, rv⟩ := rl.get hg
      exact tail_any il.typeIs slot_list_getitem.lookup (wpAny_getItem_list il h0 (by omega) (by simpa using hv) ⟨Kp.rfl' _, rv⟩) (hslice _ _)
    · obtain ⟨v, hv, rv⟩ := rl.get hg
      have e := rl.length
      exact tail_any il.typeIs slot_list_getitem.lookup (wpAny_getItem_list_neg il h0 (by simp [e]; omega) (by omega) (by simpa [e] using hv) ⟨Kp.rfl' _, rv⟩) (hslice _ _)
  · rename_i ds i
    cases hc : okInt i <;> rw [hc] at h
    · cases h
    obtain ⟨l, vs, rfl, il, rl⟩ := ra.tup_inv
    obtain ⟨u, rfl⟩ := rb.int_inv
    have h1 := okInt_lo hc
    have h2 := okInt_hi hc
    have e := rl.length
    rcases nth_get h with ⟨h0, hg⟩ | ⟨h0, h0', hg⟩
    · obtain ⟨v, hv, rv⟩ := rl.get hg
      have hlt : i.toNat < vs.length := (List.getElem?_eq_some_iff.mp hv).1
      refine item_tupleT (j := i.toNat) il (by omega) (by omega) ?_ hv ⟨Kp.rfl' _, rv⟩ (hslice _ _)
      unfold seqIndex?
      simp; omega
    · obtain ⟨v, hv, rv⟩ := rl.get hg
      have hlt : (i + ds.length).toNat < vs.length := (List.getElem?_eq_some_iff.mp hv).1
      refine item_tupleT (j := (i + ds.length).toNat) il (by omega) (by omega) ?_ hv ⟨Kp.rfl' _, rv⟩ (hslice _ _)
      unfold seqIndex?
      simp; omega
  · cases h

theorem len_ok {a d : D} {v : Value} (h : lenD a = some d) (r : Rel X s.heap v a) : wpAny (model prog w) A (call (.builtin "len") [v]) (EP X d s) noE s := by
  unfold lenD at h
  split at h
  · rename_i ds
    cases hc : okLen ds.length <;> rw [hc] at h <;> cases h
    obtain ⟨l, vs, rfl, hl, il, rl⟩ := r.lst_inv
    have hs := okLen_le hc
    have e := rl.length
    have hlim : lim = 100000 := rfl
    refine PySem.Calls.call_len_list il (by simp; omega) ⟨Kp.tok _, ?_⟩
    simp only [List.size_toArray, e]
    exact .int _ _
  · cases h

theorem ints_get {ds : List D} {is : List Int} (h : ints? ds = some is) : ds = is.map D.int := by
  induction ds generalizing is with
  | nil => simp [ints?] at h; subst h; rfl
  | cons d ds ih =>
    unfold ints? at h
    split at h
    · rename_i i is' h1 h2
      cases h
      have := ih h2
      cases d <;> simp [int?] at h1
      subst h1
      rw [this]; rfl
    · cases h
theorem RelL.ints {h : Heap} {vs : List Value} {is : List Int} (r : RelL X h vs (is.map D.int)) : IntsAre vs is := by
  induction is generalizing vs with
  | nil => cases r; exact .nil
  | cons i is ih =>
    cases r with
    | cons hv r => obtain ⟨t, rfl⟩ := hv.int_inv; exact .cons _ _ (ih r)
theorem IntsAre.rel {h : Heap} {vs : List Value} {is : List Int} (r : IntsAre vs is) : RelL X h vs (is.map D.int) := by
  induction r with
  | nil => exact .nil
  | cons n t _ ih => exact .cons (.int _ _) ih
theorem IntsAre.at {vs : List Value} {is : List Int} (r : IntsAre vs is) : ∀ {k : Nat} {v : Value}, vs[k]? = some v → ∃ t, v = .int (is.getD k 0) t := by
  induction r with
  | nil => intro k v h; simp at h
  | cons n t _ ih =>
    intro k v h
    cases k with
    | zero => simp at h; subst h; exact ⟨t, rfl⟩
    | succ k => simpa using ih (by simpa using h)

theorem sum_ok {a d : D} {v : Value} (hh : A.handled = none) (h : sumD a = some d) (r : Rel X s.heap v a) : wpAny (model prog w) A (call (.builtin "sum") [v]) (EP X d s) noE s := by
  unfold sumD at h
  split at h
  · rename_i ds
    split at h
    · rename_i is hi
      cases hc : okLen ds.length <;> rw [hc] at h <;> cases h
      obtain ⟨l, vs, rfl, hl, il, rl⟩ := r.lst_inv
      have e := ints_get hi
      subst e
      have ri := rl.ints
      refine call_sum_walkG (wpAny_pyIter_list il ?_)
      have hlt : l < s.heap.objs.size := by obtain ⟨o, ho, _⟩ := il; exact Heap.lt_size ho
      refine ⟨s.heap.objs.size, [s.heap.objs.size, l], [s.heap.objs.size], vs.toArray.size, _, _, fun i => is.getD i 0, rfl, Walks.list (A := A.in1) hh s.heap.objs.size l (Nat.ne_of_lt hlt) vs.toArray,
        ⟨⟨_, Heap.get?_push_size _ rfl, rfl, rfl⟩, IsListE (Ext.push _ _) il⟩, ?_, ?_, ?_⟩
      · intro b hb
        simp only [List.mem_cons, List.not_mem_nil, or_false] at hb
        rw [Heap.size_push]
        rcases hb with rfl | rfl
        · exact Nat.lt_succ_self _
        · exact Nat.lt_succ_of_lt hlt
      · intro i v hv
        exact IntsAre.at ri (by simpa using hv)
      · intro h' tk t' hk
        refine ⟨⟨h', tk, rfl, fun b o e => hk b o (fun hm => ?_) (Heap.get?_push_of_some _ e)⟩, ?_⟩
        · simp only [List.mem_cons, List.not_mem_nil, or_false] at hm
          exact Nat.lt_irrefl _ (hm ▸ Heap.lt_size e)
        · have e2 : preSum (fun i => is.getD i 0) vs.toArray.size = is.sum := by
            rw [PyProof.Rows.preSum_getD]
            rw [List.take_of_length_le]
            have := rl.length
            simp at this ⊢
            omega
          rw [e2]
          exact .int _ _
    · cases h
  · cases h

end
end Mine
open PySem PySem.W PyProof.Rows
namespace Mine
noncomputable def noComp : Expr → Bool
  | .ListComp .. | .SetComp .. | .DictComp .. => false
  | _ => true
noncomputable def noSlice : Expr → Bool
  | .Slice .. => false
  | _ => true
noncomputable def noStar : Expr → Bool
  | .Starred .. => false
  | _ => true
noncomputable def noSet : Expr → Bool
  | .Set .. => false
  | _ => true
noncomputable def isGlob (sc : Scope) (x : Str) : Prop := sc.names.lookup x = some .globalImplicit
noncomputable def MC (o : Expr) (name : Str) (apos : Pos) (args : List Expr) (pos : Pos) (env : Env) : Prop :=
  ∃ pl : Sem Bool, eval (.Call (.Attribute o name apos) args [] pos) env = (do
      let ov ← eval o env
      standAt apos.atName
      let (f, first) ← holding [ov] (getMethod ov name pl)
      callWith pos f first (backTo pos (starEach args env)) [])
structure CompSc (sc sc' : Scope) (fr : List Nat) (xs : List Nat) : Prop where
  kind : sc'.kind = .function
  nocell : ∀ y ∈ sc'.names, y.2 ≠ .cell
  names : ∀ y ∈ sc'.names, y.2 = .local → sc'.names.lookup y.1 = some .local
  xs : ∀ n ∈ xs, sc'.names.lookup (nm n) = some .local
  fr : ∀ n ∈ fr, sc'.names.lookup (nm n) = some .free
  free : ∀ y ∈ sc'.names, y.2 = .free → sc.names.lookup y.1 = some .cell

mutual
inductive SimE (av : Nat) : Scope → E → Expr → Prop
  | fls {sc k p} : SimE av sc .fls (.Constant (.bool false) k p)
  | int {sc i k p} : SimE av sc (.int i) (.Constant (.int i) k p)
  | str {sc x k p} : SimE av sc (.str x) (.Constant (.str x) k p)
  | neg {sc e x p} : SimE av sc e x → SimE av sc (.neg e) (.UnaryOp .USub x p)
  | var {sc n y p} : y = nm n → (y == ("__debug__" : Str)) = false → (y == ("__classdict__" : Str)) = false → SimE av sc (.var n) (.Name y p)
  | bin {sc o a b x y p} : SimE av sc a x → SimE av sc b y → SimE av sc (.bin o a b) (.BinOp x (opOf o) y p)
  | ife {sc t a b x y z p} : SimT av sc t x → SimE av sc a y → SimE av sc b z → SimE av sc (.ife t a b) (.IfExp x y z p)
  | cmp {sc c a b x y p} : SimE av sc a x → SimE av sc b y → noSet y = true → SimE av sc (.cmp c a b) (.Compare x [cmOf c] [y] p)
  | idx {sc a i x y p} : SimE av sc a x → SimE av sc i y → noSlice y = true → SimE av sc (.idx a i) (.Subscript x y p)
  | slcT {sc a hi x y p q} : SimE av sc a x → SimE av sc hi y → (∀ o r, letTemporaryGo x o r = pure ()) → SimE av sc (.slcT a hi) (.Subscript x (.Slice none (some y) none p) q)
  | slc {sc a lo hi x y z p q} : SimE av sc a x → SimE av sc lo y → SimE av sc hi z → (∀ o r, letTemporaryGo x o r = pure ()) → SimE av sc (.slc a lo hi) (.Subscript x (.Slice (some y) (some z) none p) q)
  | list {sc es xs p} : SimEs av sc es xs → SimE av sc (.list es) (.List xs p)
  | tup {sc es xs k p} : SimEs av sc es xs → SimE av sc (.tup es) (.Tuple xs k p)
  | rep {sc e n x y p q} : SimE av sc e x → SimE av sc n y → noStar x = true → SimE av sc (.rep e n) (.BinOp (.List [x] p) .Mult y q)
  | comp {sc elt x it fr t ex ix y ifs sc' px p} : SimI av sc it ix → CompSc sc sc' fr [x] → y = nm x → SimE av sc' elt ex → SimO av sc' t ifs → (∀ v env, foldedSetIterable ix env v = pure v) →
      SimE av sc (.comp elt x it fr t) (.ListComp ex [⟨.Name y px, ix, ifs, 0⟩] sc' p)
  | comp2 {sc elt x it y it2 fr ex ix ix2 nx ny sc' px py p} : SimI av sc it ix → CompSc sc sc' fr [x, y] → nx = nm x → ny = nm y → x ≠ y → SimI av sc' it2 ix2 → SimE av sc' elt ex →
      (∀ v env, foldedSetIterable ix env v = pure v) → (∀ v env, foldedSetIterable ix2 env v = pure v) →
      SimE av sc (.comp2 elt x it y it2 fr) (.ListComp ex [⟨.Name nx px, ix, [], 0⟩, ⟨.Name ny py, ix2, [], 0⟩] sc' p)
  | call {sc f es g x xs p q} : f ≤ 10 → g = fnm f → isGlob sc g → (g == ("__debug__" : Str)) = false → SimEs av sc es (x :: xs) → SimE av sc (.call f es) (.Call (.Name g p) (x :: xs) [] q)
  | len {sc e x p q} : isGlob sc "len" → SimE av sc e x → noStar x = true → SimE av sc (.len e) (.Call (.Name "len" p) [x] [] q)
  | sum {sc e x p q} : isGlob sc "sum" → SimE av sc e x → noStar x = true → SimE av sc (.sum e) (.Call (.Name "sum" p) [x] [] q)
  | max {sc a b x y p q} : isGlob sc "max" → SimE av sc a x → SimE av sc b y → noStar x = true → noStar y = true → SimE av sc (.max a b) (.Call (.Name "max" p) [x, y] [] q)
  | sorted {sc e x p q} : isGlob sc "sorted" → SimE av sc e x → noStar x = true → SimE av sc (.sorted e) (.Call (.Name "sorted" p) [x] [] q)
  | encode {sc e x p q k r} : SimE av sc e x → (∀ env, MC x "encode" p [.Constant (.str "ascii") k r] q env) → SimE av sc (.encode e) (.Call (.Attribute x "encode" p) [.Constant (.str "ascii") k r] [] q)
  | split {sc e x p q k r} : SimE av sc e x → (∀ env, MC x "split" p [.Constant (.bytes [13, 10]) k r] q env) → SimE av sc (.split e) (.Call (.Attribute x "split" p) [.Constant (.bytes [13, 10]) k r] [] q)
  | accLen {sc y p q r} : isGlob sc "len" → y = nm av → (y == ("__debug__" : Str)) = false → SimE av sc .accLen (.Call (.Name "len" p) [.Name y q] [] r)
  | accL {sc e x y p q r} : isGlob sc "bisect_left" → y = nm av → (y == ("__debug__" : Str)) = false → SimE av sc e x → noStar x = true → SimE av sc (.accL e) (.Call (.Name "bisect_left" p) [.Name y q, x] [] r)
  | accR {sc e x y p q r} : isGlob sc "bisect_right" → y = nm av → (y == ("__debug__" : Str)) = false → SimE av sc e x → noStar x = true → SimE av sc (.accR e) (.Call (.Name "bisect_right" p) [.Name y q, x] [] r)
  | accAdd {sc e x y p q} : y = nm av → (y == ("__debug__" : Str)) = false → SimE av sc e x → SimE av sc (.accAdd e) (.BinOp (.Name y p) .Add x q)
inductive SimEs (av : Nat) : Scope → List E → List Expr → Prop
  | nil {sc} : SimEs av sc [] []
  | cons {sc e x es xs} : SimE av sc e x → noStar x = true → SimEs av sc es xs → SimEs av sc (e :: es) (x :: xs)
inductive SimT (av : Nat) : Scope → T → Expr → Prop
  | cmp {sc a cs es x xs p} : SimE av sc a x → SimEs av sc es xs → xs.all noSet = true → SimT av sc (.cmp a cs es) (.Compare x (cs.map cmOf) xs p)
  | and {sc a b x y p} : SimT av sc a x → SimT av sc b y → SimT av sc (.and a b) (.BoolOp .And [x, y] p)
  | isIn {sc a i j x k₁ p₁ k₂ p₂ k p q} : SimE av sc a x → SimT av sc (.isIn a i j) (.Compare x [.In] [.Tuple [.Constant (.int i) k₁ p₁, .Constant (.int j) k₂ p₂] k p] q)
inductive SimO (av : Nat) : Scope → Option T → List Expr → Prop
  | none {sc} : SimO av sc none []
  | some {sc t x} : SimT av sc t x → SimO av sc (some t) [x]
inductive SimI (av : Nat) : Scope → I → Expr → Prop
  | range {sc e x p q} : isGlob sc "range" → SimE av sc e x → noStar x = true → SimI av sc (.range e) (.Call (.Name "range" p) [x] [] q)
  | seq {sc e x} : SimE av sc e x → SimI av sc (.seq e) x
end

mutual
inductive SimS (av : Nat) (sc : Scope) : S → Stmt → Prop
  | asg {x e y v px p} : y = nm x → x ≠ av → (sc.names.lookup y = some .local ∧ noComp v = true ∨ sc.names.lookup y = some .cell) → SimE av sc e v → SimS av sc (.asg x e) (.Assign [.Name y px] v p)
  | asgC {x elt z it fr t ex ix yz ifs sc' pz px y q p} : y = nm x → x ≠ av → sc.names.lookup y = some .local → px.line = q.line → (sc'.names.any fun (n, k) => n == y && (k == .local || k == .cell)) = false →
      SimE av sc (.comp elt z it fr t) (.ListComp ex [⟨.Name yz pz, ix, ifs, 0⟩] sc' q) → SimS av sc (.asg x (.comp elt z it fr t)) (.Assign [.Name y px] (.ListComp ex [⟨.Name yz pz, ix, ifs, 0⟩] sc' q) p)
  | acc {y px q p} : y = nm av → sc.names.lookup y = some .local → SimS av sc .acc (.Assign [.Name y px] (.List [] q) p)
  | app {e x y p q r t} : y = nm av → (y == ("__debug__" : Str)) = false → SimE av sc e x → noStar x = true → (∀ env, MC (.Name y p) "append" q [x] r env) → SimS av sc (.app e) (.Expr (.Call (.Attribute (.Name y p) "append" q) [x] [] r) t)
  | ins {e x y p q r t} : isGlob sc "insort_right" → y = nm av → (y == ("__debug__" : Str)) = false → SimE av sc e x → noStar x = true → SimS av sc (.ins e) (.Expr (.Call (.Name "insort_right" p) [.Name y q, x] [] r) t)
  | mov {z y x px q p} : y = nm z → z ≠ av → x = nm av → (x == ("__debug__" : Str)) = false → sc.names.lookup y = some .local → SimS av sc (.mov z) (.Assign [.Name y px] (.Name x q) p)
  | ifs {t a b x xs ys p} : SimT av sc t x → SimSs av sc a xs → SimSs av sc b ys → SimS av sc (.ifs t a b) (.If x xs ys p)
  | for1 {x it body y ix xs px p} : y = nm x → x ≠ av → (sc.names.lookup y = some .local ∨ sc.names.lookup y = some .cell) → SimI av sc it ix → SimSs av sc body xs → (∀ v env, foldedSetIterable ix env v = pure v) →
      SimS av sc (.for1 x it body) (.For (.Name y px) ix xs [] p)
  | for2 {x y it body nx ny ix xs px py k q p} : nx = nm x → ny = nm y → x ≠ y → x ≠ av → y ≠ av → sc.names.lookup nx = some .local → sc.names.lookup ny = some .local → SimI av sc it ix → SimSs av sc body xs →
      (∀ v env, foldedSetIterable ix env v = pure v) → SimS av sc (.for2 x y it body) (.For (.Tuple [.Name nx px, .Name ny py] k q) ix xs [] p)
  | ret {e x p} : SimE av sc e x → SimS av sc (.ret e) (.Return (some x) p)
  | retAcc {y q p} : y = nm av → (y == ("__debug__" : Str)) = false → SimS av sc .retAcc (.Return (some (.Name y q)) p)
inductive SimSs (av : Nat) (sc : Scope) : List S → List Stmt → Prop
  | nil : SimSs av sc [] []
  | cons {s x ss xs} : SimS av sc s x → SimSs av sc ss xs → SimSs av sc (s :: ss) (x :: xs)
end
end Mine
open PySem PySem.W PyProof.Rows
namespace Mine

structure EnvOK (env : Env) : Prop where
  kind : env.scope.kind = .function
  glob : env.globals = mainGlobals
  blt : env.builtins = builtinsNs
structure GF (Fs : Addr → Option Obj) (mg mb : Str → Option Value) (h : Heap) : Prop where
  g : h.Ns mainGlobals mg
  b : h.Ns builtinsNs mb
  nolimit : h.NoLimit
  fn : ∀ f, f ≤ 13 → mg (fnm f) = some (.ref (fadr f)) ∧ ∃ o fd, h.get? (fadr f) = some o ∧ o.data = .func fd
  bi : ∀ x ∈ ["len", "sum", "max", "sorted"], mg (Str.ofString x) = none ∧ mb (Str.ofString x) = some (.builtin x)
  kx : ∀ a o, Fs a = some o → h.get? a = some o
  rng : mg "range" = none ∧ mb "range" = some (.type "range")

theorem GF.ext {Fs : Addr → Option Obj} {mg mb : Str → Option Value} {h h' : Heap} (G : GF Fs mg mb h) (x : Ext h h') : GF Fs mg mb h' where
  g := G.g.keeps x
  b := G.b.keeps x
  nolimit := G.nolimit.keeps x
  fn := fun f hf => let ⟨a, o, fd, ho, hd⟩ := G.fn f hf; ⟨a, o, fd, x _ _ ho, hd⟩
  bi := G.bi
  kx := fun a o e => x _ _ (G.kx a o e)
  rng := G.rng

noncomputable def VarOK (env : Env) (m : Str → Option Value) (h : Heap) (X : List Addr) (n : Nat) (d : D) : Prop :=
  (env.kindOf (nm n) = some .local ∧ ∃ v, m (nm n) = some v ∧ Rel X h v d) ∨
  ((env.kindOf (nm n) = some .cell ∨ env.kindOf (nm n) = some .free) ∧ ∃ c v, env.cells.lookup (nm n) = some c ∧ h.IsCell c (some v) ∧ Rel X h v d)
noncomputable def AccOK (env : Env) (m : Str → Option Value) (h : Heap) (X : List Addr) (av : Nat) (ds : List D) : Prop :=
  env.kindOf (nm av) = some .local ∧ ∃ l vs, m (nm av) = some (.ref l) ∧ l ∈ X ∧ h.IsList l vs.toArray ∧ RelL X h vs ds

structure Inv (Fs : Addr → Option Obj) (mg mb : Str → Option Value) (X : List Addr) (av : Nat) (env : Env) (σ : St) (h : Heap) : Prop where
  ok : EnvOK env
  gf : GF Fs mg mb h
  xs : ∀ a ∈ X, ∃ o, h.get? a = some o
  vars : ∃ m, h.Ns env.locals m ∧ (∀ n d, look n σ.env = some d → VarOK env m h X n d) ∧ ∀ ds, σ.acc = some ds → AccOK env m h X av ds

theorem VarOK.ext {env : Env} {m : Str → Option Value} {h h' : Heap} {X : List Addr} {n : Nat} {d : D} (x : Ext h h') (v : VarOK env m h X n d) : VarOK env m h' X n d := by
  rcases v with ⟨a, v, b, r⟩ | ⟨a, c, v, b, ic, r⟩
  · exact .inl ⟨a, v, b, r.ext x⟩
  · exact .inr ⟨a, c, v, b, ic.keeps x, r.ext x⟩
theorem AccOK.ext {env : Env} {m : Str → Option Value} {h h' : Heap} {X : List Addr} {av : Nat} {ds : List D} (x : Ext h h') (v : AccOK env m h X av ds) : AccOK env m h' X av ds := by
  obtain ⟨a, l, vs, b, c, il, r⟩ := v
  exact ⟨a, l, vs, b, c, IsListE x il, r.ext x⟩
theorem Ext.le {h h' : Heap} (x : Ext h h') {a : Addr} {o : Obj} (e : h.get? a = some o) : a < h'.objs.size := Heap.lt_size (x _ _ e)

theorem Inv.ext {Fs : Addr → Option Obj} {mg mb : Str → Option Value} {X : List Addr} {av : Nat} {env : Env} {σ : St} {h h' : Heap} (I : Inv Fs mg mb X av env σ h) (x : Ext h h') : Inv Fs mg mb X av env σ h' where
  ok := I.ok
  gf := I.gf.ext x
  xs := fun a ha => let ⟨o, ho⟩ := I.xs a ha; ⟨o, x _ _ ho⟩
  vars := let ⟨m, hn, hv, ha⟩ := I.vars; ⟨m, hn.keeps x, fun n d e => (hv n d e).ext x, fun ds e => (ha ds e).ext x⟩
theorem Inv.lt {Fs : Addr → Option Obj} {mg mb : Str → Option Value} {X : List Addr} {av : Nat} {env : Env} {σ : St} {h : Heap} (I : Inv Fs mg mb X av env σ h) : ∀ a ∈ X, a < h.objs.size :=
  fun a ha => let ⟨_, ho⟩ := I.xs a ha; Heap.lt_size ho

structure AOK (n : Nat) (A : Around) : Prop where
  h : A.handled = none
  d : A.depth + n ≤ 900
  u : A.units + 4 * n ≤ 9000
theorem AOK.mono {n k : Nat} {A : Around} (a : AOK n A) (h : k ≤ n) : AOK k A := ⟨a.h, by have := a.d; omega, by have := a.u; omega⟩
theorem AOK.room {n : Nat} {A : Around} (a : AOK n A) : A.units + 64 < cLine := by have := a.u; have e : cLine = 9900 := rfl; omega

structure ScOK (sc : Scope) (env : Env) : Prop where
  glob : ∀ g, isGlob sc g → env.kindOf g = some .globalImplicit
  cell : ∀ g, sc.names.lookup g = some .cell → env.kindOf g = some .cell ∧ ∃ c, env.cells.lookup g = some c

end Mine
open PySem PySem.W PyProof.Rows PySem.Calls
namespace Mine
structure Snd (prog : Program) (w : World) (Fs : Addr → Option Obj) (mg mb : Str → Option Value) (n : Nat) (v : Ev) : Prop where
  e : ∀ {A : Around} {X : List Addr} {av : Nat} {env : Env} {σ : St} {e : E} {x : Expr} {d : D} {s : Shared} {sc : Scope}, AOK n A → SimE av sc e x → ScOK sc env → v.e σ e = some d → Inv Fs mg mb X av env σ s.heap →
    wpAny (model prog w) A (eval x env) (EP X d s) noE s
  t : ∀ {A : Around} {X : List Addr} {av : Nat} {env : Env} {σ : St} {t : T} {x : Expr} {b : Bool} {s : Shared} {sc : Scope}, AOK n A → SimT av sc t x → ScOK sc env → v.t σ t = some b → Inv Fs mg mb X av env σ s.heap →
    wpAny (model prog w) A (isTrue x env (eval x env)) (fun c s' => c = b ∧ Kp s s') noE s
  f : ∀ {A : Around} {X : List Addr} {f : Nat} {ds : List D} {d : D} {vs : List Value} {s : Shared}, AOK n A → f ≤ 10 → v.f f ds = some d → GF Fs mg mb s.heap → (∀ a ∈ X, ∃ o, s.heap.get? a = some o) → RelL X s.heap vs ds →
    wpAny (model prog w) A (call (.ref (fadr f)) vs) (EP X d s) noE s
structure Bis (prog : Program) (w : World) (Fs : Addr → Option Obj) (mg mb : Str → Option Value) : Prop where
  l : ∀ {A : Around} {s : Shared} {l : Addr} {vs : List Value} {is : List Int} {x : Int} {t : Tok}, AOK 1 A → GF Fs mg mb s.heap → s.heap.IsList l vs.toArray → IntsAre vs is → is.length ≤ lim →
    wpAny (model prog w) A (call (.ref (fadr 11)) [.ref l, .int x t]) (fun v s' => Kp s s' ∧ ∃ t, v = .int (bisL is x (is.length + 1) 0 is.length) t) noE s
  r : ∀ {A : Around} {s : Shared} {l : Addr} {vs : List Value} {is : List Int} {x : Int} {t : Tok}, AOK 1 A → GF Fs mg mb s.heap → s.heap.IsList l vs.toArray → IntsAre vs is → is.length ≤ lim →
    wpAny (model prog w) A (call (.ref (fadr 12)) [.ref l, .int x t]) (fun v s' => Kp s s' ∧ ∃ t, v = .int (bisR is x (is.length + 1) 0 is.length) t) noE s

section
variable {prog : Program} {w : World} {Fs : Addr → Option Obj} {mg mb : Str → Option Value} {A : Around} {X : List Addr} {av : Nat} {env : Env} {σ : St} {s : Shared} {sc : Scope} {v : Ev} {n : Nat}

theorem mono {α : Type} {M : Model} {t : Sem α} {Q Q' : α → Shared → Prop} (h : wpAny M A t Q noE s) (hQ : ∀ a s, Q a s → Q' a s) : wpAny M A t Q' noE s := wpAny_mono h hQ fun _ _ e => e

theorem name_var {m : Nat} {d : D} {y : Str} {p : Pos} (I : Inv Fs mg mb X av env σ s.heap) (hy : y = nm m) (h1 : (y == ("__debug__" : Str)) = false) (h2 : (y == ("__classdict__" : Str)) = false) (h : look m σ.env = some d) :
    wpAny (model prog w) A (eval (.Name y p) env) (EP X d s) noE s := by
  obtain ⟨mm, hn, hv, _⟩ := I.vars
  subst hy
  refine wpAny_Name ?_ h1
  rcases hv m d h with ⟨hk, v, hm, r⟩ | ⟨hk, c, v, hc, ic, r⟩
  · exact wpAny_loadName_local I.ok.kind hk hn hm ⟨Kp.rfl' _, r⟩
  · rcases hk with hk | hk
    · exact wpAny_loadName_cell I.ok.kind hk hc ic ⟨Kp.rfl' _, r⟩
    · exact wpAny_loadName_free I.ok.kind hk hc ic ⟨Kp.rfl' _, r⟩ h2
theorem name_acc {ds : List D} {y : Str} {p : Pos} (I : Inv Fs mg mb X av env σ s.heap) (hy : y = nm av) (h1 : (y == ("__debug__" : Str)) = false) (h : σ.acc = some ds) :
    wpAny (model prog w) A (eval (.Name y p) env) (fun v s' => s' = s ∧ ∃ l vs, v = .ref l ∧ l ∈ X ∧ s.heap.IsList l vs.toArray ∧ RelL X s.heap vs ds) noE s := by
  obtain ⟨mm, hn, _, ha⟩ := I.vars
  obtain ⟨hk, l, vs, hm, hX, il, r⟩ := ha ds h
  subst hy
  exact wpAny_Name (wpAny_loadName_local I.ok.kind hk hn hm ⟨rfl, l, vs, rfl, hX, il, r⟩) h1
theorem name_fn {f : Nat} {y : Str} {p : Pos} (ok : EnvOK env) (G : GF Fs mg mb s.heap) (S : ScOK sc env) (hf : f ≤ 13) (hy : y = fnm f) (hg : isGlob sc y) (h1 : (y == ("__debug__" : Str)) = false) :
    wpAny (model prog w) A (eval (.Name y p) env) (fun v s' => v = .ref (fadr f) ∧ s' = s) noE s := by
  subst hy
  exact Name_function_global ok.kind (S.glob _ hg) (loadGlobal_global (by rw [ok.glob]; exact G.g) (G.fn f hf).1 ⟨rfl, rfl⟩) h1
theorem name_bi {y : String} {p : Pos} (ok : EnvOK env) (G : GF Fs mg mb s.heap) (S : ScOK sc env) (hf : y ∈ ["len", "sum", "max", "sorted"]) (hg : isGlob sc (Str.ofString y)) (h1 : (Str.ofString y == ("__debug__" : Str)) = false) :
    wpAny (model prog w) A (eval (.Name (Str.ofString y) p) env) (fun v s' => v = .builtin y ∧ s' = s) noE s :=
  Name_function_global ok.kind (S.glob _ hg) (loadGlobal_builtin (by rw [ok.glob]; exact G.g) (G.bi y hf).1 (by rw [ok.blt]; exact G.b) (G.bi y hf).2 ⟨rfl, rfl⟩) h1
theorem name_rng {p : Pos} (ok : EnvOK env) (G : GF Fs mg mb s.heap) (S : ScOK sc env) (hg : isGlob sc "range") :
    wpAny (model prog w) A (eval (.Name "range" p) env) (fun v s' => v = .type "range" ∧ s' = s) noE s :=
  Name_function_global ok.kind (S.glob _ hg) (loadGlobal_builtin (by rw [ok.glob]; exact G.g) G.rng.1 (by rw [ok.blt]; exact G.b) G.rng.2 ⟨rfl, rfl⟩) (by decide)

theorem star_no {x : Expr} {xs : List Expr} (h : noStar x = true) : starEach (x :: xs) env = (false, eval x env) :: starEach xs env := by
  cases x <;> first | rfl | (simp [noStar] at h)
theorem args_ok (L : Snd prog w Fs mg mb n v) (a : AOK n A) (S : ScOK sc env) {p : Pos} : ∀ {es : List E} {xs : List Expr} {ds : List D} {s : Shared}, SimEs av sc es xs → evalEs v σ es = some ds → Inv Fs mg mb X av env σ s.heap →
    wpAny (model prog w) A (spliced (backTo p (starEach xs env))) (fun vs s' => Kp s s' ∧ RelL X s'.heap vs ds) noE s
  | [], _, ds, s, .nil, h, I => by simp [evalEs] at h; subst h; exact args_nil ⟨Kp.rfl' _, .nil⟩
  | e :: es, _, ds, s, .cons se hs ses, h, I => by
    dsimp only [evalEs] at h
    split at h
    · rename_i d hd
      split at h
      · rename_i ds' hds
        cases h
        refine args_cons (mono (L.e a se S hd I) fun vv s₁ h₁ => ?_) (star_no hs)
        refine mono (args_ok L a S ses hds (I.ext h₁.1.ext)) fun vs s₂ h₂ => ?_
        exact ⟨h₁.1.trans' h₂.1, .cons (h₁.2.ext h₂.1.ext) h₂.2⟩
      · cases h
    · cases h

theorem Kp.chain {s s₁ s₂ : Shared} {d : D} {vv : Value} (k : Kp s s₁) (h : EP X d s₁ vv s₂) : EP X d s vv s₂ := ⟨k.trans' h.1, h.2⟩

theorem sOK_list {vs : List Value} {ds : List D} {h : Heap} (r : RelL X h vs ds) (hl : okLen ds.length = true) : vs.length ≤ sizeLine := by rw [r.length]; exact okLen_size hl

theorem newList_ok {vs : List Value} {ds : List D} (hX : ∀ a ∈ X, a < s.heap.objs.size) (r : RelL X s.heap vs ds) (hl : okLen ds.length = true) : wpAny (model prog w) A (newList vs) (EP X (.lst ds) s) noE s :=
  wpAny_newObj_type ⟨Kp.psh0 _, Rel.newList hX r⟩ (by show vs.toArray.size ≤ sizeLine; rw [List.size_toArray]; exact sOK_list r hl)
theorem newTup_ok {vs : List Value} {ds : List D} (r : RelL X s.heap vs ds) (hl : okLen ds.length = true) : wpAny (model prog w) A (newTuple vs) (EP X (.tup ds) s) noE s :=
  wpAny_newObj_type ⟨Kp.psh0 _, Rel.newTup r⟩ (by show vs.toArray.size ≤ sizeLine; rw [List.size_toArray]; exact sOK_list r hl)
theorem chain_ok (L : Snd prog w Fs mg mb n v) (a : AOK n A) (S : ScOK sc env) {p : Pos} : ∀ {cs : List Cm} {es : List E} {xs : List Expr} {d : D} {vv : Value} {b : Bool} {s : Shared}, SimEs av sc es xs → chainGo v σ d cs es = some b → Inv Fs mg mb X av env σ s.heap → Rel X s.heap vv d →
    wpAny (model prog w) A (testChain p vv (cs.map cmOf) (evalEach xs env)) (fun c s' => c = b ∧ Kp s s') noE s
  | [], _, _, _, _, _, _, _, h, _, _ => by simp [chainGo] at h
  | [c], [], _, _, _, _, _, _, h, _, _ => by simp [chainGo] at h
  | [c], [e], _, d, vv, b, s, .cons se _ .nil, h, I, r => by
    dsimp only [chainGo] at h
    split at h
    · rename_i y hy
      show wpAny _ _ (do
        let rv ← holding [vv] (eval _ env)
        standAt p
        let c' ← operate [vv, rv] (compareOp (cmOf c) vv rv)
        holding [c'] (truthy c')) _ _ _
      refine wpAny_bind (wpAny_holding (mono (L.e a se S hy I) fun rv s₁ h₁ => ?_))
      refine wpAny_bind (wpAny_standAt (wpAny_bind (wpAny_operate' ?_)))
      exact cmp_ok a.room h (r.ext h₁.1.ext) h₁.2 (wpAny_holding (wpAny_truthy_bool ⟨rfl, h₁.1⟩))
    · cases h
  | [c], e :: e' :: es, _, _, _, _, _, _, h, _, _ => by simp [chainGo] at h
  | c :: c' :: cs, [], _, _, _, _, _, _, h, _, _ => by simp [chainGo] at h
  | c :: c' :: cs, [e], _, _, _, _, _, _, h, _, _ => by simp [chainGo] at h
  | c :: c' :: cs, e :: e' :: es, _, d, vv, b, s, .cons se _ (.cons (x := x') (xs := xs') se' hs' ses), h, I, r => by
    dsimp only [chainGo] at h
    split at h
    · rename_i y hy
      show wpAny _ _ (do
        let rv ← holding [vv] (eval _ env)
        standAt p
        let c₁ ← holding [vv, rv] (compareOp (cmOf c) vv rv)
        release [vv, rv] [c₁]
        if ← holding [c₁, rv] (truthy c₁) then testChain p rv ((c' :: cs).map cmOf) (evalEach (x' :: xs') env) else pure false) _ _ _
      refine wpAny_bind (wpAny_holding (mono (L.e a se S hy I) fun rv s₁ h₁ => ?_))
      refine wpAny_bind (wpAny_standAt (wpAny_bind (wpAny_holding ?_)))
      split at h
      · rename_i hc
        refine cmp_ok a.room hc (r.ext h₁.1.ext) h₁.2 (wpAny_bind (wpAny_release' (wpAny_bind (wpAny_holding (wpAny_truthy_bool ?_)))))
        rw [if_pos rfl]
        refine mono (chain_ok L a S (.cons se' hs' ses) h (I.ext h₁.1.ext) h₁.2) fun b s₂ h₂ => ⟨h₂.1, h₁.1.trans' h₂.2⟩
      · rename_i hc
        cases h
        refine cmp_ok a.room hc (r.ext h₁.1.ext) h₁.2 (wpAny_bind (wpAny_release' (wpAny_bind (wpAny_holding (wpAny_truthy_bool ?_)))))
        rw [if_neg (by simp)]
        exact wpAny_pure ⟨rfl, h₁.1⟩
      · cases h
    · cases h

theorem noSet_marks : ∀ (ops : List CmpOp) (xs : List Expr), xs.all noSet = true → lastMarks ops xs = false
  | [], _, _ => by simp [lastMarks]
  | [_], [], _ => by simp [lastMarks]
  | [op], [x], h => by
    have hx : noSet x = true := by simpa using h
    show behindInMarks op x = false
    cases x <;> first | rfl | (simp [noSet] at hx)
  | [_], _ :: y :: ys, h => by
    simp [lastMarks]
  | _ :: _ :: _, [], _ => by simp [lastMarks]
  | _ :: o :: ops, x :: xs, h => by
    have hx : xs.all noSet = true := by
      simp only [List.all_cons, Bool.and_eq_true] at h
      exact h.2
    have := noSet_marks (o :: ops) xs hx
    simpa [lastMarks] using this

theorem stepT_ok (L : Snd prog w Fs mg mb n v) {t : T} {x : Expr} {b : Bool} (a : AOK n A) (hs : SimT av sc t x) (S : ScOK sc env) (h : stepT v σ t = some b) (I : Inv Fs mg mb X av env σ s.heap) :
    wpAny (model prog w) A (isTrue x env (eval x env)) (fun c s' => c = b ∧ Kp s s') noE s := by
  cases hs with
  | cmp se ses hn =>
    rename_i a' cs es x' xs p
    dsimp only [stepT] at h
    split at h
    · rename_i d hd
      show wpAny _ _ (do testChain p (← eval x' env) (cs.map cmOf) (markedEach (cs.map cmOf) xs (evalEach xs env))) _ _ _
      rw [markedEach_of_false _ _ _ (noSet_marks _ _ hn)]
      refine wpAny_bind (mono (L.e a se S hd I) fun vv s₁ h₁ => ?_)
      exact mono (chain_ok L a S ses h (I.ext h₁.1.ext) h₁.2) fun c s₂ h₂ => ⟨h₂.1, h₁.1.trans' h₂.2⟩
    · cases h
  | and s1 s2 =>
    dsimp only [stepT] at h
    refine isTrue_and ?_
    split at h
    · rename_i ht
      refine mono (L.t a s1 S ht I) fun c s₁ h₁ => ?_
      obtain ⟨rfl, k⟩ := h₁
      rw [if_pos rfl]
      refine isTrue_and (mono (L.t a s2 S h (I.ext k.ext)) fun c s₂ h₂ => ?_)
      obtain ⟨rfl, k'⟩ := h₂
      cases c with
      | true => rw [if_pos rfl]; exact isTrue_and_nil ⟨rfl, k.trans' k'⟩
      | false => rw [if_neg (by simp)]; exact ⟨rfl, k.trans' k'⟩
    · rename_i ht
      cases h
      refine mono (L.t a s1 S ht I) fun c s₁ h₁ => ?_
      obtain ⟨rfl, k⟩ := h₁
      rw [if_neg (by simp)]
      exact ⟨rfl, k⟩
    · cases h
  | isIn se =>
    rename_i a' i j x' k₁ p₁ k₂ p₂ k p q
    dsimp only [stepT] at h
    split at h
    · rename_i kk hd
      cases h
      refine wpAny_isTrue_Compare1 (mono (L.e a se S hd I) fun vv s₁ h₁ => ?_)
      obtain ⟨t, rfl⟩ := h₁.2.int_inv
      refine Tuple_ ?_
      refine args_cons (wpAny_Constant_int (args_cons (wpAny_Constant_int (args_nil ?_)))) 
      refine wpAny_newObj_type ?_ (by show 2 ≤ sizeLine; rw [sizeLine_eq]; decide)
      refine SeqAt.in_tuple_reads (xs := [.int i, .int j]) (d := .int kk) (as := []) (bs := []) (reads_tuple_at (Heap.get?_push_size _ rfl) rfl rfl (.cons (.int _ _) (.cons (.int _ _) .nil))) (.int _ _) rfl rfl ?_ ?_
      · have := a.room
        simp [PyData.depthAll, PyData.depth]
        omega
      · refine wpAny_truthy_bool ⟨?_, ?_⟩
        · simp [PyData.eqv]
        · exact h₁.1.trans' (Kp.psh _ _)
    · cases h

end
end Mine
open PySem PySem.W PyProof.Rows PySem.Calls
namespace Mine

section
variable {prog : Program} {w : World} {Fs : Addr → Option Obj} {mg mb : Str → Option Value} {A : Around} {X : List Addr} {av : Nat} {env : Env} {σ : St} {s : Shared} {sc : Scope} {v : Ev} {n : Nat}

theorem list_mul {l : Addr} {items : Array Value} {k : Nat} {x : Int} {u : Tok} {Q : Value → Shared → Prop} {E : Value → Shared → Prop}
    (hl : s.heap.get? l = some { cls := .type "list", dict := none, data := .seq items k, slots := #[] })
    (hlo : -(2 ^ 63 : Int) ≤ x) (hhi : x < 2 ^ 63) (hsz : items.size * x.toNat ≤ 2 ^ 24)
    (h : Q (.ref s.heap.objs.size) { s with heap := s.heap.push { cls := .type "list", data := .seq (List.foldl (fun x1 x2 => x1 ++ x2) #[] (List.replicate (if items.isEmpty = true then 0 else x.toNat) items)) } }) :
    wpAny (model prog w) A (binaryOp .Mult (.ref l) (.int x u)) Q E s :=
  wpAny_binaryOp_repeat_ref (T := "list") (U := "int") (by decide) ⟨_, hl, rfl⟩ (fun s' => typeIs_int s' x u) noFill_list_mul PySem.F.fills_int_mul PySem.F.slot_int_rmul repeat_list PySem.F.slot_int_index.lookup
    (call_meets PySem.F.slot_int_rmul (typeIs_int s x u) PySem.F.entry_int_rmul (PySem.F.args_int_rmul_2 _ _) (int___rmul___int_list x u l items k)
      ⟨hl, rfl, ⟨_, hl, rfl⟩, call_meets PySem.F.slot_list_mul ⟨_, hl, rfl⟩ PySem.F.entry_list_mul (PySem.F.args_list_mul_2 _ _)
        (AutoListH.list___mul___list_int_3 l items k x u (by simp [Builtin.List.listFitsIndex]; omega) (by omega) (by simp [Builtin.List.listTooLong, sizeLine]; omega))
        ⟨hl, h⟩⟩)

theorem noSet_in {x : Expr} (h : noSet x = true) (op : CmpOp) : behindInMarks op x = false := by
  cases x <;> first | rfl | (simp [noSet] at h)
theorem noSlice_sub {x : Expr} (h : noSlice x = true) (o i : Value) : subscripted x false o i = operate [o, i] (getItem o i) := by
  cases x <;> first | rfl | (simp [noSlice] at h)

theorem rep_foldl (v : Value) : ∀ (n : Nat) (acc : Array Value), List.foldl (fun x1 x2 => x1 ++ x2) acc (List.replicate n #[v]) = acc ++ (List.replicate n v).toArray
  | 0, acc => by simp
  | n + 1, acc => by
    rw [List.replicate_succ, List.foldl_cons, rep_foldl v n]
    rw [List.replicate_succ]
    apply Array.toList_inj.mp
    simp

theorem RelL.rep {h : Heap} {vv : Value} {d : D} (r : Rel X h vv d) : ∀ n : Nat, RelL X h (List.replicate n vv) (List.replicate n d)
  | 0 => .nil
  | n + 1 => by rw [List.replicate_succ, List.replicate_succ]; exact .cons r (RelL.rep r n)

theorem slc_list {l : Addr} {vs : List Value} {ds : List D} {d : D} {lw : Nat} {hv : Value} {hi : D} (hX : ∀ a ∈ X, a < s.heap.objs.size) (hs : slcD (.lst ds) lw hi = some d) (il : s.heap.IsList l vs.toArray) (rl : RelL X s.heap vs ds) (rh : Rel X s.heap hv hi) (lov : Value) (lop : Option Int)
    (hlop : IsPart lov lop) (hlo : lop.elim 0 (clipAt vs.toArray.size) = min lw vs.length) :
    ∃ hip, IsPart hv hip ∧ vs.toArray.size ≤ sizeLine ∧
      EP X d s (.ref (s.heap.objs.size + 1)) { s with heap := (s.heap.push { cls := .type "slice", data := .fields #[lov, hv, .none] }).push { cls := .type "list", data := .seq (slicePick vs.toArray lop hip none) } } := by
  unfold slcD at hs
  split at hs
  · rename_i lw _ _ _ ds' k heq
    cases heq
    split at hs
    · rename_i k'
      cases hc : okLen k' && okLen lw && okLen ds.length <;> rw [hc] at hs <;> cases hs
      simp only [Bool.and_eq_true] at hc
      obtain ⟨t, rfl⟩ := rh.int_inv
      refine ⟨some (k' : Int), .int _ _, by simpa [rl.length] using okLen_size hc.2, ?_, ?_⟩
      · exact (Kp.psh0 (s := s) _).trans' (Kp.psh0 (s := { s with heap := s.heap.push _ }) _)
      · have e : slicePick vs.toArray lop (some (k' : Int)) none = ((vs.take k').drop lw).toArray := by
          rw [slicePick_plain, hlo]
          have : (some (k' : Int)).elim vs.toArray.size (clipAt vs.toArray.size) = min k' vs.length := by
            show clipAt vs.toArray.size (k' : Int) = _
            rw [clipAt_nat]; simp
          rw [this]
          congr 1
          apply List.ext_getElem?
          intro i
          simp only [List.getElem?_take, List.getElem?_drop]
          by_cases h1 : i < min k' vs.length - min lw vs.length
          · rw [if_pos h1]
            have h2 : lw ≤ vs.length := by omega
            have h3 : min lw vs.length = lw := by omega
            rw [h3]
            have h4 : lw + i < k' := by omega
            rw [if_pos h4]
          · rw [if_neg h1]
            by_cases h4 : lw + i < k'
            · rw [if_pos h4]
              symm
              apply List.getElem?_eq_none
              omega
            · rw [if_neg h4]
        rw [e]
        have := Rel.newList (X := X) (h := s.heap.push { cls := .type "slice", data := .fields #[lov, .int (Int.ofNat k') t, .none] }) (fun a ha => by rw [Heap.size_push]; exact Nat.lt_succ_of_lt (hX a ha)) (((rl.take k').drop lw).ext (Ext.push _ _))
        rw [Heap.size_push] at this
        exact this
    · cases hs
  · cases hs
noncomputable def Special (e : E) : Prop := (∃ elt y it fr t, e = .comp elt y it fr t) ∨ (∃ elt y it z it2 fr, e = .comp2 elt y it z it2 fr) ∨ (∃ y, e = .encode y) ∨ ∃ y, e = .split y
theorem stepE_ok (L : Snd prog w Fs mg mb n v) (B : Bis prog w Fs mg mb) {e : E} {x : Expr} {d : D} (hn : 1 ≤ n) (a : AOK n A) (hs : SimE av sc e x) (S : ScOK sc env) (h : stepE v σ e = some d) (I : Inv Fs mg mb X av env σ s.heap)
    (hsp : Special e → wpAny (model prog w) A (eval x env) (EP X d s) noE s)
    (hsort : ∀ {a d : D} {vv : Value} {s : Shared}, sortD a = some d → GF Fs mg mb s.heap → (∀ a ∈ X, ∃ o, s.heap.get? a = some o) → Rel X s.heap vv a → wpAny (model prog w) A (call (.builtin "sorted") [vv]) (EP X d s) noE s)
    (hmax : ∀ {i j : Int} {t u : Tok} {s : Shared}, GF Fs mg mb s.heap → wpAny (model prog w) A (call (.builtin "max") [.int i t, .int j u]) (EP X (.int (bif decide (i < j) then j else i)) s) noE s) :
    wpAny (model prog w) A (eval x env) (EP X d s) noE s := by
  cases hs with
  | fls => dsimp only [stepE] at h; cases h; exact wpAny_pure ⟨Kp.rfl' _, .bool _⟩
  | int => dsimp only [stepE] at h; cases h; exact wpAny_Constant_int ⟨Kp.tok _, .int _ _⟩
  | str =>
    dsimp only [stepE] at h; cases h
    exact wpAny_mkText ⟨Kp.tok _, .str _ _⟩
  | neg se =>
    dsimp only [stepE] at h
    split at h
    · rename_i i hi
      cases h
      refine wpAny_UnaryOp (mono (L.e a se S hi I) fun vv s₁ h₁ => ?_)
      obtain ⟨t, rfl⟩ := h₁.2.int_inv
      exact PySem.P.neg_int ⟨h₁.1.trans' (Kp.tok _), .int _ _⟩
    · cases h
  | var hy h1 h2 => dsimp only [stepE] at h; exact name_var I hy h1 h2 h
  | bin sa sb =>
    dsimp only [stepE] at h
    split at h
    · rename_i x' hx
      split at h
      · rename_i y' hy
        refine wpAny_BinOp (mono (L.e a sa S hx I) fun va s₁ h₁ => mono (L.e a sb S hy (I.ext h₁.1.ext)) fun vb s₂ h₂ => ?_)
        have k := h₁.1.trans' h₂.1
        exact mono (bin_ok (fun a ha => (I.ext k.ext).lt a ha) h (h₁.2.ext h₂.1.ext) h₂.2) fun vv s₃ h₃ => k.chain h₃
      · cases h
    · cases h
  | ife st sa sb =>
    dsimp only [stepE] at h
    split at h
    · rename_i ht
      refine wpAny_IfExp (mono (L.t a st S ht I) fun c s₁ h₁ => ?_)
      obtain ⟨rfl, k⟩ := h₁
      rw [if_pos rfl]
      exact mono (L.e a sa S h (I.ext k.ext)) fun _ _ h₂ => k.chain h₂
    · rename_i ht
      refine wpAny_IfExp (mono (L.t a st S ht I) fun c s₁ h₁ => ?_)
      obtain ⟨rfl, k⟩ := h₁
      rw [if_neg (by simp)]
      exact mono (L.e a sb S h (I.ext k.ext)) fun _ _ h₂ => k.chain h₂
    · cases h
  | cmp sa sb hset =>
    dsimp only [stepE] at h
    split at h
    · rename_i x' hx
      split at h
      · rename_i y' hy
        cases hc : cmpD _ x' y' with
        | none => rw [hc] at h; cases h
        | some b =>
          rw [hc] at h; cases h
          refine wpAny_Compare1 (mono (L.e a sa S hx I) fun va s₁ h₁ => mono (L.e a sb S hy (I.ext h₁.1.ext)) fun vb s₂ h₂ => ?_) ?_
          · exact cmp_ok a.room hc (h₁.2.ext h₂.1.ext) h₂.2 ⟨h₁.1.trans' h₂.1, .bool _⟩
          · exact noSet_in hset _
      · cases h
    · cases h
  | idx sa sb hsl =>
    dsimp only [stepE] at h
    split at h
    · rename_i x' hx
      split at h
      · rename_i y' hy
        refine Subscript_ (mono (L.e a sa S hx I) fun va s₁ h₁ => mono (L.e a sb S hy (I.ext h₁.1.ext)) fun vb s₂ h₂ => ?_)
        have k := h₁.1.trans' h₂.1
        exact mono (idx_ok h (h₁.2.ext h₂.1.ext) h₂.2 (noSlice_sub hsl)) fun vv s₃ h₃ => k.chain h₃
      · cases h
    · cases h
  | slcT sa sb hlt =>
    dsimp only [stepE] at h
    split at h
    · rename_i x' hx
      split at h
      · rename_i y' hy
        refine wpAny_Subscript_list_slice (mono (L.e a sa S hx I) fun va s₁ h₁ => ?_) hlt
        rw [evalPart_none]
        refine wpAny_pure ?_
        rw [evalPart_some]
        refine mono (L.e a sb S hy (I.ext h₁.1.ext)) fun vb s₂ h₂ => ?_
        have k := h₁.1.trans' h₂.1
        have hls : ∃ ds, x' = .lst ds := by cases x' <;> first | exact ⟨_, rfl⟩ | simp [slcD] at h
        obtain ⟨ds, rfl⟩ := hls
        obtain ⟨l, vs, rfl, hl, il, rl⟩ := (h₁.2.ext h₂.1.ext).lst_inv
        obtain ⟨hip, p1, p2, p3⟩ := slc_list (I.ext k.ext).lt h il rl h₂.2 .none none .none (by simp)
        exact ⟨l, vs.toArray, none, hip, rfl, il, p2, .none, p1, k.chain p3⟩
      · cases h
    · cases h
  | slc sa sl sb hlt =>
    dsimp only [stepE] at h
    split at h
    · rename_i x' hx
      split at h
      · rename_i lo hlo
        split at h
        · rename_i y' hy
          refine wpAny_Subscript_list_slice (mono (L.e a sa S hx I) fun va s₁ h₁ => ?_) hlt
          rw [evalPart_some]
          refine mono (L.e a sl S hlo (I.ext h₁.1.ext)) fun vl s₂ h₂ => ?_
          rw [evalPart_some]
          have k := h₁.1.trans' h₂.1
          refine mono (L.e a sb S hy (I.ext k.ext)) fun vb s₃ h₃ => ?_
          have k' := k.trans' h₃.1
          have hls : ∃ ds, x' = .lst ds := by cases x' <;> first | exact ⟨_, rfl⟩ | simp [slcD] at h
          obtain ⟨ds, rfl⟩ := hls
          obtain ⟨l, vs, rfl, hl, il, rl⟩ := ((h₁.2.ext h₂.1.ext).ext h₃.1.ext).lst_inv
          obtain ⟨t, rfl⟩ := h₂.2.int_inv
          obtain ⟨hip, p1, p2, p3⟩ := slc_list (I.ext k'.ext).lt h il rl h₃.2 (.int (Int.ofNat lo) t) (some (lo : Int)) (.int _ _) (by show clipAt _ (lo : Int) = _; rw [clipAt_nat]; simp)
          exact ⟨l, vs.toArray, _, hip, rfl, il, p2, .int _ _, p1, k'.chain p3⟩
        · cases h
      · cases h
    · cases h
  | list ses =>
    dsimp only [stepE] at h
    split at h
    · rename_i ds hds
      cases hc : okLen ds.length <;> rw [hc] at h <;> cases h
      refine List_ (mono (args_ok L a S ses hds I) fun vs s₁ h₁ => ?_)
      exact mono (newList_ok (I.ext h₁.1.ext).lt h₁.2 hc) fun _ _ h₂ => h₁.1.chain h₂
    · cases h
  | tup ses =>
    dsimp only [stepE] at h
    split at h
    · rename_i ds hds
      cases hc : okLen ds.length <;> rw [hc] at h <;> cases h
      refine Tuple_ (mono (args_ok L a S ses hds I) fun vs s₁ h₁ => ?_)
      exact mono (newTup_ok h₁.2 hc) fun _ _ h₂ => h₁.1.chain h₂
    · cases h
  | rep se sn hst =>
    dsimp only [stepE] at h
    split at h
    · rename_i x' hx
      split at h
      · rename_i i hi
        cases hc : okInt i && okLen i.toNat <;> rw [hc] at h <;> cases h
        simp only [Bool.and_eq_true] at hc
        refine wpAny_BinOp (List_ (args_cons (mono (L.e a se S hx I) fun va s₁ h₁ => args_nil ?_) (star_no hst)))
        refine wpAny_newObj_type ?_ (by show 1 ≤ sizeLine; rw [sizeLine_eq]; decide)
        have k1 : Kp s₁ { s₁ with heap := s₁.heap.push { cls := .type "list", data := .seq [va].toArray } } := Kp.psh0 _
        refine mono (L.e a sn S hi (I.ext (h₁.1.trans' k1).ext)) fun vb s₂ h₂ => ?_
        obtain ⟨t, rfl⟩ := h₂.2.int_inv
        have k2 := (h₁.1.trans' k1).trans' h₂.1
        have hlo := okInt_lo hc.1
        have hhi := okInt_hi hc.1
        have hlim := okLen_le hc.2
        have el : lim = 100000 := rfl
        refine list_mul (items := #[va]) (k := 0) (h₂.1.ext _ _ (Heap.get?_push_size _ rfl)) (by omega) (by omega) (by simp; omega) ⟨k2.trans' (Kp.psh0 _), ?_⟩
        have e : List.foldl (fun x1 x2 => x1 ++ x2) #[] (List.replicate (if (#[va] : Array Value).isEmpty = true then 0 else i.toNat) #[va]) = (List.replicate i.toNat va).toArray := by
          rw [rep_foldl]; simp
        rw [e]
        exact Rel.newList (I.ext k2.ext).lt (RelL.rep ((h₁.2.ext k1.ext).ext h₂.1.ext) _)
      · cases h
    · cases h
  | comp => exact hsp (.inl ⟨_, _, _, _, _, rfl⟩)
  | comp2 => exact hsp (.inr (.inl ⟨_, _, _, _, _, _, rfl⟩))
  | call hf hg hgl hd ses =>
    dsimp only [stepE] at h
    split at h
    · rename_i ds hds
      obtain ⟨fo, fd, ho, hfd⟩ := (I.gf.fn _ (Nat.le_trans hf (by decide))).2
      refine Call_ (mono (name_fn (w := w) (prog := prog) I.ok I.gf S (Nat.le_trans hf (by decide)) hg hgl hd) fun f s₁ h₁ => ?_)
      obtain ⟨rfl, rfl⟩ := h₁
      refine callWith_def hfd (mono (args_ok L a S ses hds I) fun vs s₂ h₂ => ⟨h₂.1.ext _ _ ho, ?_⟩) ?_
      · exact mono (L.f a hf h (I.gf.ext h₂.1.ext) (I.ext h₂.1.ext).xs h₂.2) fun _ _ h₃ => h₂.1.chain h₃
      · cases ses with | cons _ hst _ => exact star_no hst
    · cases h
  | len hg se hst =>
    dsimp only [stepE] at h
    cases hx : v.e σ _ with
    | none => rw [hx] at h; cases h
    | some x' =>
      rw [hx] at h
      refine Call_ (mono (name_bi (w := w) (prog := prog) I.ok I.gf S (by simp) hg (by decide)) fun f s₁ h₁ => ?_)
      obtain ⟨rfl, rfl⟩ := h₁
      refine PyProof.Rows.callWith_builtin1 (args_cons (mono (L.e a se S hx I) fun va s₂ h₂ => args_nil ?_) (star_no hst)) (star_no hst)
      exact mono (len_ok h h₂.2) fun _ _ h₃ => h₂.1.chain h₃
  | sum hg se hst =>
    dsimp only [stepE] at h
    cases hx : v.e σ _ with
    | none => rw [hx] at h; cases h
    | some x' =>
      rw [hx] at h
      refine Call_ (mono (name_bi (w := w) (prog := prog) I.ok I.gf S (by simp) hg (by decide)) fun f s₁ h₁ => ?_)
      obtain ⟨rfl, rfl⟩ := h₁
      refine PyProof.Rows.callWith_builtin1 (args_cons (mono (L.e a se S hx I) fun va s₂ h₂ => args_nil ?_) (star_no hst)) (star_no hst)
      exact mono (sum_ok a.h h h₂.2) fun _ _ h₃ => h₂.1.chain h₃
  | max hg sa sb hst hst2 =>
    dsimp only [stepE] at h
    split at h
    · rename_i x' hx
      split at h
      · rename_i y' hy
        refine Call_ (mono (name_bi (w := w) (prog := prog) I.ok I.gf S (by simp) hg (by decide)) fun f s₁ h₁ => ?_)
        obtain ⟨rfl, rfl⟩ := h₁
        refine PyProof.Rows.callWith_builtin1 (args_cons (mono (L.e a sa S hx I) fun va s₂ h₂ => args_cons (mono (L.e a sb S hy (I.ext h₂.1.ext)) fun vb s₃ h₃ => args_nil ?_) (star_no hst2)) (star_no hst)) (star_no hst) (by rw [star_no hst2]; rfl)
        unfold maxD at h
        split at h
        · cases h
          obtain ⟨t, rfl⟩ := h₂.2.int_inv
          obtain ⟨u, rfl⟩ := h₃.2.int_inv
          have k := h₂.1.trans' h₃.1
          exact mono (hmax (I.gf.ext k.ext)) fun _ _ h₃ => k.chain h₃
        · cases h
      · cases h
    · cases h
  | sorted hg se hst =>
    dsimp only [stepE] at h
    cases hx : v.e σ _ with
    | none => rw [hx] at h; cases h
    | some x' =>
      rw [hx] at h
      refine Call_ (mono (name_bi (w := w) (prog := prog) I.ok I.gf S (by simp) hg (by decide)) fun f s₁ h₁ => ?_)
      obtain ⟨rfl, rfl⟩ := h₁
      refine PyProof.Rows.callWith_builtin1 (args_cons (mono (L.e a se S hx I) fun va s₂ h₂ => args_nil ?_) (star_no hst)) (star_no hst)
      exact mono (hsort h (I.gf.ext h₂.1.ext) (I.ext h₂.1.ext).xs h₂.2) fun _ _ h₃ => h₂.1.chain h₃
  | encode => exact hsp (.inr (.inr (.inl ⟨_, rfl⟩)))
  | split => exact hsp (.inr (.inr (.inr ⟨_, rfl⟩)))
  | accLen hg hy hd =>
    dsimp only [stepE] at h
    split at h
    · rename_i ds hds
      refine Call_ (mono (name_bi (w := w) (prog := prog) I.ok I.gf S (by simp) hg (by decide)) fun f s₁ h₁ => ?_)
      obtain ⟨rfl, rfl⟩ := h₁
      refine PyProof.Rows.callWith_builtin1 (args_cons (mono (name_acc I hy hd hds) fun va s₂ h₂ => args_nil ?_))
      obtain ⟨rfl, l, vs, rfl, hl, il, rl⟩ := h₂
      unfold lenD at h
      simp only at h
      cases hc : okLen ds.length <;> rw [hc] at h <;> cases h
      have hs := okLen_le hc
      have e := rl.length
      have hlim : lim = 100000 := rfl
      refine PySem.Calls.call_len_list il (by simp; omega) ⟨Kp.tok _, ?_⟩
      simp only [List.size_toArray, e]
      exact .int _ _
    · cases h
  | accL hg hy hd se hst =>
    dsimp only [stepE] at h
    split at h
    · rename_i ds hds
      split at h
      · rename_i is his
        split at h
        · rename_i x' hx
          cases hc : okLen is.length <;> rw [hc] at h <;> cases h
          obtain ⟨fo, fd, ho, hfd⟩ := (I.gf.fn 11 (by decide)).2
          refine Call_ (mono (name_fn (w := w) (prog := prog) (f := 11) I.ok I.gf S (by decide) rfl hg (by decide)) fun f s₁ h₁ => ?_)
          obtain ⟨rfl, rfl⟩ := h₁
          refine callWith_def hfd (args_cons (mono (name_acc I hy hd hds) fun va s₂ h₂ => ?_))
          obtain ⟨rfl, l, vs, rfl, hl, il, rl⟩ := h₂
          refine args_cons (mono (L.e a se S hx I) fun vb s₃ h₃ => args_nil ⟨h₃.1.ext _ _ ho, ?_⟩) (star_no hst)
          obtain ⟨t, rfl⟩ := h₃.2.int_inv
          have e := ints_get his
          subst e
          refine mono (B.l (a.mono hn) (I.gf.ext h₃.1.ext) (IsListE h₃.1.ext il) rl.ints (okLen_le hc)) fun vv s₄ h₄ => ?_
          obtain ⟨k, t', rfl⟩ := h₄
          exact ⟨h₃.1.trans' k, .int _ _⟩
        · cases h
      · cases h
    · cases h
  | accR hg hy hd se hst =>
    dsimp only [stepE] at h
    split at h
    · rename_i ds hds
      split at h
      · rename_i is his
        split at h
        · rename_i x' hx
          cases hc : okLen is.length <;> rw [hc] at h <;> cases h
          obtain ⟨fo, fd, ho, hfd⟩ := (I.gf.fn 12 (by decide)).2
          refine Call_ (mono (name_fn (w := w) (prog := prog) (f := 12) I.ok I.gf S (by decide) rfl hg (by decide)) fun f s₁ h₁ => ?_)
          obtain ⟨rfl, rfl⟩ := h₁
          refine callWith_def hfd (args_cons (mono (name_acc I hy hd hds) fun va s₂ h₂ => ?_))
          obtain ⟨rfl, l, vs, rfl, hl, il, rl⟩ := h₂
          refine args_cons (mono (L.e a se S hx I) fun vb s₃ h₃ => args_nil ⟨h₃.1.ext _ _ ho, ?_⟩) (star_no hst)
          obtain ⟨t, rfl⟩ := h₃.2.int_inv
          have e := ints_get his
          subst e
          refine mono (B.r (a.mono hn) (I.gf.ext h₃.1.ext) (IsListE h₃.1.ext il) rl.ints (okLen_le hc)) fun vv s₄ h₄ => ?_
          obtain ⟨k, t', rfl⟩ := h₄
          exact ⟨h₃.1.trans' k, .int _ _⟩
        · cases h
      · cases h
    · cases h
  | accAdd hy hd se =>
    dsimp only [stepE] at h
    split at h
    · rename_i ds hds
      split at h
      · rename_i es hes
        cases hc : okLen (ds.length + es.length) <;> rw [hc] at h <;> cases h
        refine wpAny_BinOp (mono (name_acc I hy hd hds) fun va s₁ h₁ => ?_)
        obtain ⟨rfl, l, vs, rfl, hl, il, rl⟩ := h₁
        refine mono (L.e a se S hes I) fun vb s₂ h₂ => ?_
        obtain ⟨b, ws, rfl, hb, ib, rb⟩ := h₂.2.lst_inv
        have rl' := rl.ext h₂.1.ext
        refine list_add (IsListE h₂.1.ext il) ib ⟨h₂.1.trans' (Kp.psh0 _), Rel.newList (I.ext h₂.1.ext).lt (rl'.append rb)⟩ ?_
        rw [rl'.length, rb.length]; exact okLen_size hc
      · cases h
    · cases h

end
end Mine
open PySem PySem.W PyProof.Rows PySem.Calls
namespace Mine
noncomputable def clOf (env : Env) : List (Str × NameKind) → List (Str × Addr) → List (Str × Addr)
  | [], cs => cs
  | (n, k) :: r, cs => clOf env r (if k == NameKind.free then (n, (env.cells.lookup n).getD 0) :: cs else cs)

set_option linter.unusedSimpArgs false in
theorem closure_go {env : Env} : ∀ (names : List (Str × NameKind)) (cs : List (Str × Addr)), (∀ y ∈ names, y.2 = .free → ∃ c, env.cells.lookup y.1 = some c) →
    (forIn names cs (fun (x : Str × NameKind) (r : List (Str × Addr)) => (if (x.2 == NameKind.free) = true then (do let c ← cellOf env x.1; pure (ForInStep.yield ((x.1, c) :: r))) else pure (ForInStep.yield r) : Sem (ForInStep (List (Str × Addr)))))) = pure (clOf env names cs)
  | [], cs, _ => by rw [List.forIn_nil]; rfl
  | (n, k) :: r, cs, h => by
    rw [List.forIn_cons]
    have ih := fun cs' => closure_go r cs' fun y hy => h y (.tail _ hy)
    by_cases hk : (k == NameKind.free) = true
    · obtain ⟨c, hc⟩ := h (n, k) (.head _) (by simpa using hk)
      have e : cellOf env n = pure c := by unfold cellOf; simp only at hc; rw [hc]
      simp only [hk, if_true, e, pure_bind, clOf]
      rw [ih]
      simp only at hc
      rw [hc]; rfl
    · simp only [hk, if_false, pure_bind, clOf]
      exact ih cs
theorem closure_eq {env : Env} {scope : Scope} (h : ∀ y ∈ scope.names, y.2 = .free → ∃ c, env.cells.lookup y.1 = some c) : closureFor scope env = pure (clOf env scope.names []) := by
  have := closure_go scope.names [] h
  unfold closureFor
  first
    | exact this
    | (simp only [bind_pure]; exact this)
    | (rw [show (forIn scope.names [] _ : Sem _) = pure (clOf env scope.names []) from this]; rfl)

theorem clOf_in {env : Env} {n : Str} : ∀ (names : List (Str × NameKind)) (cs : List (Str × Addr)), ((n, NameKind.free) ∈ names ∨ ∃ c, cs.lookup n = some c) → (∀ c, cs.lookup n = some c → env.cells.lookup n = some c) → (∃ c, env.cells.lookup n = some c) →
    (clOf env names cs).lookup n = env.cells.lookup n
  | [], cs, h, hc, _ => by
    rcases h with h | ⟨c, h⟩
    · cases h
    · rw [clOf, h, hc c h]
  | (m, k) :: r, cs, h, hc, he => by
    rw [clOf]
    by_cases hk : (k == NameKind.free) = true
    · rw [if_pos hk]
      by_cases hm : n = m
      · subst hm
        obtain ⟨c, hc'⟩ := he
        refine clOf_in r _ (.inr ⟨c, by rw [List.lookup_cons, beq_self_eq_true, hc']; rfl⟩) (fun c₂ h₂ => ?_) ⟨c, hc'⟩
        rw [List.lookup_cons, beq_self_eq_true, hc'] at h₂
        rw [hc']; exact h₂
      · have hb : (n == m) = false := by simpa using hm
        refine clOf_in r _ ?_ (fun c₂ h₂ => ?_) he
        · rcases h with h | ⟨c, h⟩
          · cases h with
            | head => exact absurd rfl hm
            | tail _ h => exact .inl h
          · exact .inr ⟨c, by rw [List.lookup_cons, hb]; exact h⟩
        · rw [List.lookup_cons, hb] at h₂; exact hc c₂ h₂
    · rw [if_neg hk]
      refine clOf_in r cs ?_ hc he
      rcases h with h | h
      · cases h with
        | head => exact absurd rfl hk
        | tail _ h => exact .inl h
      · exact .inr h

theorem lookup_relabel_free {env : Env} (hk : env.scope.kind = .function) : ∀ {names : List (Str × NameKind)} {x : Str}, names.lookup x = some .free → env.kindOf x = some .cell →
    (names.map fun (n, k) => if (k == NameKind.free && env.scope.kind == .function && env.kindOf n == some .cell) then (n, NameKind.cell) else (n, k)).lookup x = some .cell
  | [], _, h, _ => by simp at h
  | (n, k) :: r, x, h, hc => by
    have ih := @lookup_relabel_free env hk r x
    show List.lookup x ((if (k == NameKind.free && env.scope.kind == .function && env.kindOf n == some .cell) = true then (n, NameKind.cell) else (n, k)) :: _) = _
    cases hx : x == n with
    | true =>
      simp only [List.lookup_cons, hx] at h
      cases h
      have hxn : x = n := by simpa using hx
      subst hxn
      have e : (NameKind.free == NameKind.free && env.scope.kind == .function && env.kindOf x == some .cell) = true := by rw [hk, hc]; rfl
      rw [if_pos e, List.lookup_cons, hx]
    | false =>
      simp only [List.lookup_cons, hx] at h
      by_cases hq : (k == NameKind.free && env.scope.kind == .function && env.kindOf n == some .cell) = true
      · rw [if_pos hq]; simp only [List.lookup_cons, hx]; exact ih h hc
      · rw [if_neg hq]; simp only [List.lookup_cons, hx]; exact ih h hc
theorem lookup_relabel_glob {env : Env} : ∀ {names : List (Str × NameKind)} {x : Str}, names.lookup x = some .globalImplicit →
    (names.map fun (n, k) => if (k == NameKind.free && env.scope.kind == .function && env.kindOf n == some .cell) then (n, NameKind.cell) else (n, k)).lookup x = some .globalImplicit
  | [], _, h => by simp at h
  | (n, k) :: r, x, h => by
    have ih := @lookup_relabel_glob env r x
    show List.lookup x ((if (k == NameKind.free && env.scope.kind == .function && env.kindOf n == some .cell) = true then (n, NameKind.cell) else (n, k)) :: _) = _
    cases hx : x == n with
    | true =>
      simp only [List.lookup_cons, hx] at h
      cases h
      rw [if_neg (by simp), List.lookup_cons, hx]
    | false =>
      simp only [List.lookup_cons, hx] at h
      by_cases hq : (k == NameKind.free && env.scope.kind == .function && env.kindOf n == some .cell) = true
      · rw [if_pos hq]; simp only [List.lookup_cons, hx]; exact ih h
      · rw [if_neg hq]; simp only [List.lookup_cons, hx]; exact ih h

theorem look_keepFr {fr : List Nat} {ρ : List (Nat × D)} {n : Nat} {d : D} (h : look n (keepFr fr ρ) = some d) : n ∈ fr ∧ look n ρ = some d := by
  induction fr with
  | nil => simp [keepFr, look] at h
  | cons k r ih =>
    unfold keepFr at h
    rw [List.filterMap_cons] at h
    cases hk : look k ρ with
    | none =>
      rw [hk] at h
      have := ih h
      exact ⟨.tail _ this.1, this.2⟩
    | some c =>
      rw [hk] at h
      simp only [Option.map_some, look] at h
      cases hb : Nat.beq n k with
      | true =>
        rw [hb] at h
        have e : n = k := Nat.eq_of_beq_eq_true hb
        subst e
        simp only [cond_true] at h
        exact ⟨.head _, by rw [hk]; exact h⟩
      | false =>
        rw [hb] at h
        simp only [cond_false] at h
        have := ih h
        exact ⟨.tail _ this.1, this.2⟩
structure Itr (prog : Program) (w : World) (A : Around) (X : List Addr) (h₀ h₁ : Heap) (I : Addr) (ds : List D) (fp wr : List Addr) (P : Nat → Value → Prop) (St' : Nat → Heap → Prop) : Prop where
  W : Walks prog w A I fp wr ds.length P St'
  st : St' 0 h₁
  fpk : ∀ b ∈ fp, ∃ o, h₁.get? b = some o ∧ (∀ es n, o.data ≠ .dict es n) ∧ (∀ v, o.data ≠ .cell v) ∧ (o.cls = .type "list" → b ∉ X)
  new : ∀ b ∈ wr, h₀.get? b = none
  rel : ∀ i v d, P i v → ds[i]? = some d → Rel X h₀ v d
  wrI : ∀ b ∈ wr, b = I
  fpx : ∀ i h, St' i h → ∀ b ∈ fp, ∃ o, h.get? b = some o
  it : ∀ i h, St' i h → ∃ o, h.get? I = some o ∧ (o.cls = .type "list_iterator" ∨ o.cls = .type "range_iterator")

section
variable {prog : Program} {w : World} {Fs : Addr → Option Obj} {mg mb : Str → Option Value} {A : Around} {X : List Addr} {av : Nat} {env : Env} {σ : St} {s : Shared} {sc : Scope} {v : Ev} {n : Nat}

theorem rangeItems {k i : Nat} {d : D} (h : ((List.range k).map fun (j : Nat) => D.int (j : Int))[i]? = some d) : d = .int (i : Int) := by
  rw [List.getElem?_map] at h
  by_cases hi : i < k
  · rw [List.getElem?_range hi] at h
    simpa using h.symm
  · rw [List.getElem?_eq_none (by simpa using hi)] at h
    cases h

theorem fresh_none (h : Heap) : h.get? h.objs.size = none := by
  cases e : h.get? h.objs.size with
  | none => rfl
  | some o => exact absurd (Heap.lt_size e) (Nat.lt_irrefl _)

theorem itr_range (hh : A.handled = none) (h₀ : Heap) (i : Int) :
    Itr prog w A X h₀ (h₀.push { cls := .type "range_iterator", data := .fields #[rawInt 0, rawInt (Builtin.Range.rangeSize 0 i 1), rawInt 1] }) h₀.objs.size ((List.range i.toNat).map fun (k : Nat) => D.int (k : Int)) [h₀.objs.size] [h₀.objs.size]
      (fun j v => ∃ t, v = .int (0 + (j : Int) * 1) t) (fun j h => IsRangeIter h h₀.objs.size (0 + (j : Int) * 1) ((i.toNat : Int) - (j : Int)) 1) where
  W := by
    have e : ((List.range i.toNat).map fun (k : Nat) => D.int (k : Int)).length = i.toNat := by simp
    rw [e]; exact Walks.range (prog := prog) (w := w) hh _ 0 1 i.toNat
  st := by
    have hsz : Builtin.Range.rangeSize 0 i 1 = ((i.toNat : Nat) : Int) := by rw [rangeSize_one]; split <;> omega
    rw [hsz]
    show IsRangeIter _ _ _ _ _
    simpa using Heap.get?_push_size _ rfl
  fpk := by
    intro b hb
    rw [List.mem_singleton.mp hb]
    exact ⟨_, Heap.get?_push_size _ rfl, (fun _ _ e => by cases e), (fun _ e => by cases e), fun e => absurd e (by simp)⟩
  new := by
    intro b hb
    rw [List.mem_singleton.mp hb]
    exact fresh_none _
  rel := by
    rintro j vv d ⟨t', rfl⟩ hd
    rw [rangeItems hd]
    have e : (0 + (j : Int) * 1) = (j : Int) := by omega
    rw [e]; exact .int _ _
  wrI := fun b hb => List.mem_singleton.mp hb
  fpx := fun j hh hst' b hb => by rw [List.mem_singleton.mp hb]; exact ⟨_, hst'⟩
  it := fun j hh hst' => ⟨_, hst', .inr rfl⟩

theorem iter_ok (L : Snd prog w Fs mg mb n v) {it : I} {x : Expr} {ds : List D} (a : AOK n A) (hs : SimI av sc it x) (S : ScOK sc env) (h : evalI v σ it = some ds) (J : Inv Fs mg mb X av env σ s.heap) :
    wpAny (model prog w) A (eval x env) (fun xv s₁ => wpAny (model prog w) A (pyIter xv) (fun itv s₂ => ∃ I fp wr P St', itv = .ref I ∧ Kp s s₁ ∧ Kp s₁ s₂ ∧ Itr prog w A X s₁.heap s₂.heap I ds fp wr P St') noE s₁) noE s := by
  cases hs with
  | range hg se hst =>
    dsimp only [evalI] at h
    split at h
    · rename_i i hi
      cases hc : okInt i <;> rw [hc] at h <;> cases h
      have hlo := okInt_lo hc
      have hhi := okInt_hi hc
      refine Call_ (mono (name_rng (w := w) (prog := prog) J.ok J.gf S hg) fun f s₁ h₁ => ?_)
      obtain ⟨rfl, rfl⟩ := h₁
      refine PyProof.Rows.callWith_type1 (args_cons (mono (L.e a se S hi J) fun va s₂ h₂ => args_nil ?_) (star_no hst)) (star_no hst)
      obtain ⟨t, rfl⟩ := h₂.2.int_inv
      refine call_range_1 ?_
      refine wpAny_pyIter_range (IsRange.new _ _ _ _ _ _ _) (small_one (by omega) (by omega) (by omega) (by omega)) ?_
      exact ⟨_, _, _, _, _, rfl, h₂.1.trans' (Kp.psh _ _), Kp.psh _ _, itr_range a.h _ i⟩
    · cases h
  | seq se =>
    dsimp only [evalI] at h
    split at h
    · rename_i ds' hi
      cases hc : okLen ds'.length <;> rw [hc] at h <;> cases h
      refine mono (L.e a se S hi J) fun va s₂ h₂ => ?_
      obtain ⟨l, vs, rfl, hl, il, rl⟩ := h₂.2.lst_inv
      refine wpAny_pyIter_list il ?_
      have hlt : l < s₂.heap.objs.size := by obtain ⟨o, ho, _⟩ := il; exact Heap.lt_size ho
      have hlen : vs.toArray.size = ds.length := by simpa using rl.length
      have W := Walks.list (prog := prog) (w := w) a.h s₂.heap.objs.size l (Nat.ne_of_lt hlt) vs.toArray
      rw [hlen] at W
      refine ⟨_, _, _, _, _, rfl, h₂.1, Kp.psh0 _, W, ?_, ?_, ?_, ?_, fun b hb => List.mem_singleton.mp hb, ?_, ?_⟩
      · exact ⟨⟨_, Heap.get?_push_size _ rfl, rfl, rfl⟩, IsListE (Ext.push _ _) il⟩
      · intro b hb
        rcases List.mem_cons.mp hb with rfl | hb
        · exact ⟨_, Heap.get?_push_size _ rfl, (fun _ _ e => by cases e), (fun _ e => by cases e), fun e => absurd e (by simp)⟩
        · rw [List.mem_singleton.mp hb]
          obtain ⟨o, ho, hc, k, hd⟩ := il
          exact ⟨o, Heap.get?_push_of_some _ ho, (fun _ _ e => by rw [hd] at e; cases e), (fun _ e => by rw [hd] at e; cases e), fun _ => hl⟩
      · intro b hb
        rw [List.mem_singleton.mp hb]
        exact fresh_none _
      · intro j vv d hv hd
        obtain ⟨u, hu, r⟩ := rl.get hd
        have : vv = u := by
          have hv' : vs[j]? = some vv := by simpa using hv
          rw [hu] at hv'; cases hv'; rfl
        subst this
        exact r
      · rintro j hh ⟨⟨o, ho, hcl, _⟩, ⟨o', ho', _⟩⟩ b hb
        rcases List.mem_cons.mp hb with rfl | hb
        · exact ⟨o, ho⟩
        · rw [List.mem_singleton.mp hb]; exact ⟨o', ho'⟩
      · rintro j hh ⟨⟨o, ho, hcl, _⟩, _⟩
        exact ⟨o, ho, .inl hcl⟩
    · cases h
end

end Mine
open PySem PySem.W PyProof.Rows PySem.Calls
namespace Mine

section
variable {prog : Program} {w : World} {Fs : Addr → Option Obj} {mg mb : Str → Option Value} {A : Around} {X : List Addr} {av : Nat} {σ : St} {s : Shared} {sc : Scope} {v : Ev} {n : Nat}
noncomputable def TurnOf (prog : Program) (w : World) (A : Around) (env : Env) (target elt : Expr) (ifs : List Expr) (it acc : Value) (R : Result → Shared → Prop) (I : Nat → Shared → Prop) : Prop :=
  ∀ n s, I n s → wpAny (model prog w) A (pyNext it) (fun r s₁ => match r with
      | none => R (.ok .next) s₁
      | some v => wpAny (model prog w) A (assign target env v) (fun _ s₂ =>
          wpAny (model prog w) A (forIn ifs true fun c r => if r = true then do let ok ← isTrue c env (eval c env); pure (ForInStep.yield ok) else pure (ForInStep.yield r)) (fun ok s₃ =>
            if ok = true then wpAny (model prog w) A (eval elt env) (fun x s₄ =>
              wpAny (model prog w) A (call (.builtin "list.append") [acc, x]) (fun _ s₅ => ∃ m, m < n ∧ I m s₅) (notedBy (model prog w) A env fun e s' => R (.error e) s') s₄) (notedBy (model prog w) A env fun e s' => R (.error e) s') s₃
            else ∃ m, m < n ∧ I m s₃) (notedBy (model prog w) A env fun e s' => R (.error e) s') s₂) (notedBy (model prog w) A env fun e s' => R (.error e) s') s₁) (notedBy (model prog w) A env fun e s' => R (.error e) s') s
noncomputable def LoopRule (prog : Program) (w : World) (A : Around) (env : Env) (target elt : Expr) (ifs : List Expr) (it acc : Value) (c : Code) : Prop :=
  ∀ (R : Result → Shared → Prop) (I : Nat → Shared → Prop), TurnOf prog w A env target elt ifs it acc R I → ∀ n s, I n s → codeAny (model prog w) A c R s

theorem lift {α : Type} {M : Model} {t : Sem α} {Q Q' : α → Shared → Prop} {E : Value → Shared → Prop} (h : wpAny M A t Q noE s) (hQ : ∀ a s, Q a s → Q' a s) : wpAny M A t Q' E s := wpAny_mono h hQ fun _ _ e => e.elim

theorem compGo_cons {v : Ev} {elt : E} {x : Nat} {t : Option T} {ρ : List (Nat × D)} {d : D} {ds ys : List D} (h : compGo v elt x t ρ (d :: ds) = some ys) :
    (∃ y ys', testO v ⟨(x, d) :: ρ, none⟩ t = some true ∧ v.e ⟨(x, d) :: ρ, none⟩ elt = some y ∧ compGo v elt x t ρ ds = some ys' ∧ ys = y :: ys') ∨
    (testO v ⟨(x, d) :: ρ, none⟩ t = some false ∧ compGo v elt x t ρ ds = some ys) := by
  dsimp only [compGo] at h
  split at h
  · rename_i ht
    split at h
    · rename_i y hy
      split at h
      · rename_i ys' hys
        cases h
        exact .inl ⟨y, ys', ht, hy, hys, rfl⟩
      · cases h
    · cases h
  · rename_i ht
    exact .inr ⟨ht, h⟩
  · cases h
structure CSt (Fs : Addr → Option Obj) (mg mb : Str → Option Value) (X : List Addr) (cenv : Env) (h₀ : Heap) (Dl : Addr) (ρ : List (Nat × D)) (s₀ : Shared) (outs : List D) (s : Shared) : Prop where
  sh : ∃ H tk, s = { s₀ with heap := H, toks := tk }
  ext : Ext h₀ s.heap
  ns : ∃ m, s.heap.Ns cenv.locals m ∧ ∀ n d, look n ρ = some d → VarOK cenv m h₀ (Dl :: X) n d
  lst : ∃ ys, s.heap.IsList Dl ys.toArray ∧ RelL (Dl :: X) s.heap ys outs
structure CFx (Fs : Addr → Option Obj) (mg mb : Str → Option Value) (X : List Addr) (cenv : Env) (h₀ : Heap) (Dl : Addr) : Prop where
  ok : EnvOK cenv
  gf : GF Fs mg mb h₀
  xs : ∀ a ∈ X, ∃ o, h₀.get? a = some o
  C : h₀.get? cenv.locals = none
  D : h₀.get? Dl = none

theorem CSt.inv {cenv : Env} {h₀ : Heap} {Dl : Addr} {ρ : List (Nat × D)} {s₀ : Shared} {outs : List D} (F : CFx Fs mg mb X cenv h₀ Dl) (c : CSt Fs mg mb X cenv h₀ Dl ρ s₀ outs s) : Inv Fs mg mb (Dl :: X) av cenv ⟨ρ, none⟩ s.heap where
  ok := F.ok
  gf := F.gf.ext c.ext
  xs := fun a ha => by
    rcases List.mem_cons.mp ha with rfl | ha
    · obtain ⟨ys, ⟨o, ho, _⟩, _⟩ := c.lst; exact ⟨o, ho⟩
    · obtain ⟨o, ho⟩ := F.xs a ha; exact ⟨o, c.ext _ _ ho⟩
  vars := by
    obtain ⟨m, hn, hv⟩ := c.ns
    exact ⟨m, hn, fun n d e => (hv n d e).ext c.ext, fun ds e => by cases e⟩

theorem CSt.kp {cenv : Env} {h₀ : Heap} {Dl : Addr} {ρ : List (Nat × D)} {s₀ s' : Shared} {outs : List D} (c : CSt Fs mg mb X cenv h₀ Dl ρ s₀ outs s) (k : Kp s s') : CSt Fs mg mb X cenv h₀ Dl ρ s₀ outs s' where
  sh := by obtain ⟨H, tk, rfl⟩ := c.sh; obtain ⟨h', tk', rfl, _⟩ := k; exact ⟨h', tk', rfl⟩
  ext := c.ext.trans k.ext
  ns := let ⟨m, hn, hv⟩ := c.ns; ⟨m, hn.keeps k.ext, hv⟩
  lst := let ⟨ys, il, r⟩ := c.lst; ⟨ys, IsListE k.ext il, r.ext k.ext⟩
theorem CSt.less {cenv : Env} {h₀ : Heap} {Dl : Addr} {ρ : List (Nat × D)} {s₀ : Shared} {outs : List D} {x : Nat} {d : D} (hρ : ∀ n d, look n ρ = some d → n ≠ x) (c : CSt Fs mg mb X cenv h₀ Dl ((x, d) :: ρ) s₀ outs s) : CSt Fs mg mb X cenv h₀ Dl ρ s₀ outs s where
  sh := c.sh
  ext := c.ext
  ns := by
    obtain ⟨m, hn, hv⟩ := c.ns
    refine ⟨m, hn, fun k e hk => hv k e ?_⟩
    simp only [look]
    cases hb : Nat.beq k x with
    | true => exact absurd (Nat.eq_of_beq_eq_true hb) (hρ k e hk)
    | false => exact hk
  lst := c.lst
theorem NsList {h : Heap} {a : Addr} {m : Str → Option Value} {its : Array Value} (hn : h.Ns a m) (il : h.IsList a its) : False := by
  obtain ⟨o, es, ep, ho, hd, _⟩ := hn
  obtain ⟨o', ho', _, k, hd'⟩ := il
  rw [ho] at ho'; cases ho'
  rw [hd] at hd'; cases hd'
noncomputable def Odd (Xs : List Addr) (h : Heap) (b : Addr) : Prop := ∀ o, h.get? b = some o → ∀ its n, o.data = .seq its n → o.cls ≠ .type "tuple" ∧ (o.cls = .type "list" → b ∈ Xs)
theorem stay_of {h h' : Heap} {Xs : List Addr} {B : Addr → Prop} (hk : ∀ b o, ¬ B b → h.get? b = some o → h'.get? b = some o) (hB : ∀ b, B b → Odd Xs h b) : Stay Xs h h' := by
  constructor
  · rintro b its ⟨o, ho, hc, n, hd⟩
    by_cases hb : B b
    · exact absurd hc (hB b hb o ho its n hd).1
    · exact ⟨o, hk b o hb ho, hc, n, hd⟩
  · rintro b its hX ⟨o, ho, hc, n, hd⟩
    by_cases hb : B b
    · exact absurd ((hB b hb o ho its n hd).2 hc) hX
    · exact ⟨o, hk b o hb ho, hc, n, hd⟩
theorem Odd.ns {Xs : List Addr} {h : Heap} {b : Addr} {m : Str → Option Value} (hn : h.Ns b m) : Odd Xs h b := by
  intro o ho its n hd
  obtain ⟨o', es, ep, ho', hd', _⟩ := hn
  rw [ho] at ho'; cases ho'; rw [hd] at hd'; cases hd'
theorem Odd.lst {Xs : List Addr} {h : Heap} {b : Addr} {its : Array Value} (hl : h.IsList b its) (hX : b ∈ Xs) : Odd Xs h b := by
  intro o ho its n hd
  obtain ⟨o', ho', hc, _⟩ := hl
  rw [ho] at ho'; cases ho'
  exact ⟨by rw [hc]; simp, fun _ => hX⟩
theorem Odd.it {Xs : List Addr} {h : Heap} {b : Addr} (hl : ∃ o, h.get? b = some o ∧ (o.cls = .type "list_iterator" ∨ o.cls = .type "range_iterator")) : Odd Xs h b := by
  intro o ho its n hd
  obtain ⟨o', ho', hc⟩ := hl
  rw [ho] at ho'; cases ho'
  rcases hc with hc | hc <;> rw [hc] <;> simp

theorem tests_ok (L : Snd prog w Fs mg mb n v) (a : AOK n A) {env : Env} {t : Option T} {ifs : List Expr} {b : Bool} (ht : SimO av sc t ifs) (S : ScOK sc env) (h : testO v σ t = some b) (J : Inv Fs mg mb X av env σ s.heap) :
    wpAny (model prog w) A (forIn ifs true fun c r => if r = true then do let ok ← isTrue c env (eval c env); pure (ForInStep.yield ok) else pure (ForInStep.yield r)) (fun ok s' => ok = b ∧ Kp s s') noE s := by
  cases ht with
  | none =>
    dsimp only [testO] at h
    cases h
    rw [List.forIn_nil]
    exact wpAny_pure ⟨rfl, Kp.rfl' _⟩
  | some st =>
    dsimp only [testO] at h
    rw [List.forIn_cons]
    simp only [if_true]
    refine wpAny_bind (wpAny_bind (mono (L.t a st S h J) fun c s₁ h₁ => ?_))
    refine wpAny_pure ?_
    simp only [List.forIn_nil]
    exact wpAny_pure h₁
theorem comp_loop (L : Snd prog w Fs mg mb n v) (a : AOK n A) {cenv : Env} {h₀ : Heap} {Dl : Addr} {ρ : List (Nat × D)} {s₀ : Shared} (F : CFx Fs mg mb X cenv h₀ Dl) {I : Addr} {ds : List D} {fp wr : List Addr} {P : Nat → Value → Prop} {St' : Nat → Heap → Prop}
    (W : Walks prog w A I fp wr ds.length P St') (hCf : cenv.locals ∉ fp) (hDf : Dl ∉ fp) (hnew : ∀ b ∈ wr, h₀.get? b = none) (hrel : ∀ i v d, P i v → ds[i]? = some d → Rel (Dl :: X) h₀ v d)
    (hwrI : ∀ b ∈ wr, b = I) (hit : ∀ i h, St' i h → ∃ o, h.get? I = some o ∧ (o.cls = .type "list_iterator" ∨ o.cls = .type "range_iterator"))
    {x : Nat} {y : Str} {px : Pos} {elt : E} {ex : Expr} {t : Option T} {ifs : List Expr} {c : Code} (hy : y = nm x) (hx : cenv.kindOf y = some .local) (hρ : ∀ n d, look n ρ = some d → n ≠ x)
    (hs : SimE av sc elt ex) (ht : SimO av sc t ifs) (S : ScOK sc cenv) (LR : LoopRule prog w A cenv (.Name y px) ex ifs (.ref I) (.ref Dl) c) {R : Result → Shared → Prop}
    {ys outs₀ : List D} (hgo : compGo v elt x t ρ ds = some ys) (hlen : okLen (outs₀.length + ys.length) = true) {s : Shared} (hst : St' 0 s.heap) (hc : CSt Fs mg mb X cenv h₀ Dl ρ s₀ outs₀ s)
    (hR : ∀ s', CSt Fs mg mb X cenv h₀ Dl ρ s₀ (outs₀ ++ ys) s' → (∀ b o, b ≠ cenv.locals → b ≠ Dl → b ∉ wr → s.heap.get? b = some o → s'.heap.get? b = some o) → R (.ok .next) s') : codeAny (model prog w) A c R s := by
  have hCw : cenv.locals ∉ wr := fun h => hCf (W.sub _ h)
  have hDw : Dl ∉ wr := fun h => hDf (W.sub _ h)
  refine LR R (fun k s' => ∃ i outs zs, k = ds.length + 1 - i ∧ i ≤ ds.length ∧ compGo v elt x t ρ (ds.drop i) = some zs ∧ outs ++ zs = outs₀ ++ ys ∧ St' i s'.heap ∧ CSt Fs mg mb X cenv h₀ Dl ρ s₀ outs s' ∧
      (∀ b o, b ≠ cenv.locals → b ≠ Dl → b ∉ wr → s.heap.get? b = some o → s'.heap.get? b = some o)) ?_ _ s ⟨0, outs₀, ys, rfl, Nat.zero_le _, by simpa using hgo, rfl, hst, hc, fun _ _ _ _ _ e => e⟩
  rintro k s' ⟨i, outs, zs, rfl, hi, hg, hcat, hst', hc', hk⟩
  obtain ⟨m, hn, hv⟩ := hc'.ns
  obtain ⟨ls, il, rl⟩ := hc'.lst
  have hCD : cenv.locals ≠ Dl := fun e => NsList (e ▸ hn) il
  by_cases hlt : i < ds.length
  · obtain ⟨d, hd⟩ : ∃ d, ds[i]? = some d := ⟨_, List.getElem?_eq_getElem hlt⟩
    have hdrop : ds.drop i = d :: ds.drop (i + 1) := by
      rw [List.drop_eq_getElem_cons hlt]
      congr 1
      rw [List.getElem?_eq_getElem hlt] at hd
      exact Option.some.inj hd
    rw [hdrop] at hg
    refine W.item i s' _ _ hlt hst' fun vv h' tk hPv hst₁ hk₁ => ?_
    have rv := hrel i vv d hPv hd
    refine wpAny_assign_Name (wpAny_storeName_local hx (hn.at' fun o e => hk₁ _ o hCw e) (fun h₂ hn₂ hs₂ => ?_) ?_)
    · have up : ∀ b o, b ≠ cenv.locals → b ∉ wr → s'.heap.get? b = some o → h₂.get? b = some o := fun b o hbC hbw e => hs₂.extBut b o hbC (hk₁ b o hbw e)
      have hst₂ : St' (i + 1) h₂ := W.frame _ _ _ hst₁ fun b hb o e => hs₂.extBut b o (fun h => hCf (h ▸ hb)) e
      have ext₂ : Ext h₀ h₂ := fun b o e => up b o (fun q => by rw [q, F.C] at e; cases e) (fun q => by rw [hnew b q] at e; cases e) (hc'.ext b o e)
      have c₂ : CSt Fs mg mb X cenv h₀ Dl ((x, d) :: ρ) s₀ outs { s' with heap := h₂, toks := tk + 1 } := by
        refine ⟨?_, ext₂, ⟨_, hn₂, fun k c hkc => ?_⟩, ⟨ls, ?_, ?_⟩⟩
        · obtain ⟨H, tk', rfl⟩ := hc'.sh; exact ⟨h₂, _, rfl⟩
        · dsimp only [look] at hkc
          cases hb : Nat.beq k x with
          | true =>
            rw [hb] at hkc
            cases hkc
            have : k = x := Nat.eq_of_beq_eq_true hb
            subst this
            exact .inl ⟨hy ▸ hx, vv, by simp [hy], rv⟩
          | false =>
            rw [hb] at hkc
            simp only [cond_false] at hkc
            have hne : k ≠ x := hρ k c hkc
            rcases hv k c hkc with ⟨p1, u, p2, p3⟩ | q
            · refine .inl ⟨p1, u, ?_, p3⟩
              have : ¬ nm k = y := by rw [hy]; exact fun e => hne (nm_inj e)
              simp [this, p2]
            · exact .inr q
        · obtain ⟨o, ho, r⟩ := il
          exact ⟨o, up _ _ (Ne.symm hCD) hDw ho, r⟩
        · exact rl.stay (stay_of (B := fun b => b = cenv.locals ∨ b ∈ wr) (fun b o hb e => up b o (fun q => hb (.inl q)) (fun q => hb (.inr q)) e) fun b hb => by
            rcases hb with rfl | hb
            · exact Odd.ns hn
            · exact Odd.it (hwrI b hb ▸ hit i _ hst')) fun b hb => .inl hb
      have J := c₂.inv (av := av) F
      have hk₂ : ∀ b o, b ≠ cenv.locals → b ≠ Dl → b ∉ wr → s.heap.get? b = some o → h₂.get? b = some o := fun b o h1 h2 h3 e => up b o h1 h3 (hk b o h1 h2 h3 e)
      rcases compGo_cons hg with ⟨y', ys', ht', hy', hg', rfl⟩ | ⟨ht', hg'⟩
      · refine lift (tests_ok L a ht S ht' J) fun ok s₃ h₃ => ?_
        obtain ⟨rfl, k₃⟩ := h₃
        rw [if_pos rfl]
        have c₃ := c₂.kp k₃
        refine lift (L.e a hs S hy' (c₃.inv (av := av) F)) fun yv s₄ h₄ => ?_
        have c₄ := c₃.kp h₄.1
        obtain ⟨ls₄, il₄, rl₄⟩ := c₄.lst
        have hlen' : outs.length ≤ outs₀.length + ys.length := by
          have := congrArg List.length hcat
          simp at this
          omega
        refine wpAny_list_append il₄ (fun h₅ hl₅ hs₅ => ?_) (by
          have := okLen_size hlen
          have := rl₄.length
          simp; omega)
        have ext₅ : ∀ b o, b ≠ Dl → s₄.heap.get? b = some o → h₅.get? b = some o := fun b o hb e => hs₅.extBut b o hb e
        have kk := k₃.trans' h₄.1
        refine ⟨ds.length + 1 - (i + 1), by omega, i + 1, outs ++ [y'], ys', rfl, hlt, hg', by rw [← hcat]; simp, ?_, ?_, ?_⟩
        · exact W.frame _ _ _ hst₂ fun b hb o e => ext₅ b o (fun q => hDf (q ▸ hb)) (kk.ext b o e)
        · refine ⟨?_, fun b o e => ext₅ b o (fun q => by rw [q, F.D] at e; cases e) (c₄.ext b o e), ?_, ⟨ls₄ ++ [yv], ?_, ?_⟩⟩
          · obtain ⟨H, tk', e⟩ := c₄.sh; rw [e]; exact ⟨h₅, _, rfl⟩
          · obtain ⟨m₄, hn₄, hv₄⟩ := c₄.ns
            refine ⟨m₄, hn₄.sameBut hs₅ hCD, fun k c hkc => ?_⟩
            have hne : k ≠ x := hρ k c hkc
            have := hv₄ k c (by
              simp only [look]
              cases hb : Nat.beq k x with
              | true => exact absurd (Nat.eq_of_beq_eq_true hb) hne
              | false => exact hkc)
            exact this
          · simpa using hl₅
          · have rl₅ := rl₄.append (RelL.one h₄.2)
            exact rl₅.stay (stay_of (B := fun b => b = Dl) (fun b o hb e => ext₅ b o hb e) fun b hb => by subst hb; exact Odd.lst il₄ (.head _)) fun b hb => .inl hb
        · exact fun b o h1 h2 h3 e => ext₅ b o h2 (kk.ext b o (hk₂ b o h1 h2 h3 e))
      · refine lift (tests_ok L a ht S ht' J) fun ok s₃ h₃ => ?_
        obtain ⟨rfl, k₃⟩ := h₃
        rw [if_neg (by simp)]
        have c₃ := c₂.kp k₃
        refine ⟨ds.length + 1 - (i + 1), by omega, i + 1, outs, zs, rfl, hlt, hg', hcat, ?_, c₃.less hρ, fun b o h1 h2 h3 e => k₃.ext b o (hk₂ b o h1 h2 h3 e)⟩
        exact W.frame _ _ _ hst₂ fun b hb o e => k₃.ext b o e
    · have := F.ok.kind
      rw [this]; rfl
  · have hin : i = ds.length := by omega
    subst hin
    rw [List.drop_length] at hg
    dsimp only [compGo] at hg
    cases hg
    refine W.done _ _ _ hst' fun h' tk hk₁ => ?_
    rw [← hcat, List.append_nil] at hR
    refine hR _ ?_ fun b o h1 h2 h3 e => hk₁ b o h3 (hk b o h1 h2 h3 e)
    refine ⟨?_, fun b o e => hk₁ b o (fun q => by rw [hnew b q] at e; cases e) (hc'.ext b o e), ⟨m, hn.at' fun o e => hk₁ _ o hCw e, hv⟩, ⟨ls, ?_, ?_⟩⟩
    · obtain ⟨H, tk', rfl⟩ := hc'.sh; exact ⟨h', _, rfl⟩
    · obtain ⟨o, ho, r⟩ := il
      exact ⟨o, hk₁ _ _ hDw ho, r⟩
    · exact rl.stay (stay_of (B := fun b => b ∈ wr) (fun b o hb e => hk₁ b o hb e) fun b hb => Odd.it (hwrI b hb ▸ hit _ _ hst')) fun b hb => .inl hb

end
end Mine
open PySem PySem.W PyProof.Rows PySem.Calls
namespace Mine

section
variable {prog : Program} {w : World} {Fs : Addr → Option Obj} {mg mb : Str → Option Value} {A : Around} {X : List Addr} {av : Nat} {env : Env} {σ : St} {s : Shared} {sc : Scope} {v : Ev} {n : Nat}

theorem mem_lookup {l : List (Str × NameKind)} {x : Str} {k : NameKind} (h : l.lookup x = some k) : (x, k) ∈ l := by
  induction l with
  | nil => simp at h
  | cons y r ih =>
    obtain ⟨a, b⟩ := y
    rw [List.lookup_cons] at h
    cases hb : x == a with
    | true => rw [hb] at h; cases h; have : x = a := by simpa using hb
              subst this; exact .head _
    | false => rw [hb] at h; exact .tail _ (ih h)

theorem comp_sc {sc' : Scope} {fr xs : List Nat} (CS : CompSc sc sc' fr xs) (C : Addr) (cl : List (Str × Addr)) : ScOK sc' (compEnvC sc' cl C env) where
  glob := fun g hg => lookup_relabel_glob hg
  cell := fun g hg => absurd rfl (CS.nocell _ (mem_lookup hg))

theorem comp_vars {sc' : Scope} {fr xs : List Nat} (CS : CompSc sc sc' fr xs) (S : ScOK sc env) (J : Inv Fs mg mb X av env σ s.heap) {Dl C : Addr} (hD : s.heap.get? Dl = none) (m : Str → Option Value) :
    ∀ k d, look k (keepFr fr σ.env) = some d → VarOK (compEnvC sc' (clOf env sc'.names []) C env) m s.heap (Dl :: X) k d := by
  intro k d hk
  obtain ⟨hf, hl⟩ := look_keepFr hk
  obtain ⟨m₀, _, hv, _⟩ := J.vars
  have hfree := CS.fr k hf
  have hmem := mem_lookup hfree
  obtain ⟨hcell, _⟩ := S.cell _ (CS.free _ hmem rfl)
  rcases hv k d hl with ⟨p, _⟩ | ⟨_, c, u, hc, ic, r⟩
  · rw [hcell] at p; cases p
  · refine .inr ⟨.inl (lookup_relabel_free J.ok.kind hfree hcell), c, u, ?_, ic, r.sub fun a ha => ?_⟩
    · show (clOf env sc'.names []).lookup (nm k) = some c
      rw [clOf_in _ _ (.inl hmem) (fun c h => by simp at h) ⟨c, hc⟩, hc]
    · rcases List.mem_cons.mp ha with rfl | ha
      · exact .inr hD
      · exact .inl ha

theorem comp_closure {sc' : Scope} {fr xs : List Nat} (CS : CompSc sc sc' fr xs) (S : ScOK sc env) : closureFor sc' env = pure (clOf env sc'.names []) :=
  closure_eq fun y hy hk => (S.cell _ (CS.free y hy hk)).2
theorem comp_main (L : Snd prog w Fs mg mb n v) (a : AOK n A) {elt : E} {x : Nat} {it : I} {fr : List Nat} {t : Option T} {ex ix : Expr} {y : Str} {ifs : List Expr} {sc' : Scope} {px p q : Pos} {ds ys : List D} (hi : SimI av sc it ix) (CS : CompSc sc sc' fr [x]) (hy : y = nm x)
    (he : SimE av sc' elt ex) (ht : SimO av sc' t ifs) (hf : ∀ v env, foldedSetIterable ix env v = pure v) (S : ScOK sc env) (h : evalI v σ it = some ds) (hgo : compGo v elt x t (keepFr fr σ.env) ds = some ys) (hlen : okLen ys.length = true)
    (J : Inv Fs mg mb X av env σ s.heap) (use : Option (Value → Sem Unit)) {Q : Value → Shared → Prop}
    (K : ∀ Dl C s' ls, s.heap.get? Dl = none → s.heap.get? C = none → C ≠ Dl → (∃ m, s'.heap.Ns C m) → Kp s s' → s'.heap.IsList Dl ls.toArray → RelL X s'.heap ls ys → compPost (model prog w) A noE use Q (.ref Dl) C (.ok .next) s') :
    wpAny (model prog w) A (comprehension (.ListComp ex [⟨.Name y px, ix, ifs, 0⟩] sc' p) sc' env q (newList []) false (eval ix env) use) Q noE s := by
  refine wpAny_comprehension_free rfl (fun v => hf v env) (comp_closure CS S) CS.kind CS.names (mono (iter_ok L a hi S h J) fun xv s₁ h₁ => mono h₁ fun itv s₂ h₂ => ?_)
  obtain ⟨I, fp, wr, P, St', rfl, k₁, k₂, R⟩ := h₂
  refine wpAny_newObj_type (wpAny_newFunctionEnv CS.nocell (by intro y hy; simp at hy) (fun h₃ hns₃ hsb₃ => ?_) CS.kind)
  dsimp only at hns₃ hsb₃ ⊢
  generalize hH2 : s₂.heap.push { cls := .type "list", dict := none, data := .seq ([] : List Value).toArray } = H2 at hns₃ hsb₃ ⊢
  have hC : H2.objs.size = s₂.heap.objs.size + 1 := by rw [← hH2, Heap.size_push]
  have hDC : s₂.heap.objs.size ≠ H2.objs.size := by rw [hC]; exact Nat.ne_of_lt (Nat.lt_succ_self _)
  have old : ∀ b o, s₂.heap.get? b = some o → h₃.get? b = some o := fun b o e => hsb₃.extBut b o (by rw [hC]; exact Nat.ne_of_lt (Nat.lt_succ_of_lt (Heap.lt_size e))) (Heap.get?_push_of_some _ (hH2 ▸ Heap.get?_push_of_some _ e))
  have fresh : ∀ a, s₂.heap.objs.size ≤ a → s₂.heap.get? a = none := fun a ha => by
    cases e : s₂.heap.get? a with
    | none => rfl
    | some o' => exact absurd (Heap.lt_size e) (Nat.not_lt.mpr ha)
  have back : ∀ a, s₂.heap.get? a = none → s₁.heap.get? a = none := fun a ha => by
    cases e : s₁.heap.get? a with
    | none => rfl
    | some o' => have := k₂.ext _ _ e; rw [ha] at this; cases this
  have back₀ : ∀ a, s₁.heap.get? a = none → s.heap.get? a = none := fun a ha => by
    cases e : s.heap.get? a with
    | none => rfl
    | some o' => have := k₁.ext _ _ e; rw [ha] at this; cases this
  have hDn := fresh s₂.heap.objs.size (Nat.le_refl _)
  have hCn := fresh H2.objs.size (by rw [hC]; exact Nat.le_succ _)
  have J₁ := J.ext k₁.ext
  have hfp : ∀ b ∈ fp, ∃ o, s₂.heap.get? b = some o := fun b hb => let ⟨o, ho, _⟩ := R.fpk b hb; ⟨o, ho⟩
  have hDf : s₂.heap.objs.size ∉ fp := fun hm => by obtain ⟨o, ho⟩ := hfp _ hm; rw [hDn] at ho; cases ho
  have hCf : H2.objs.size ∉ fp := fun hm => by obtain ⟨o, ho⟩ := hfp _ hm; rw [hCn] at ho; cases ho
  have hacc : h₃.IsList s₂.heap.objs.size ([] : List Value).toArray := ⟨_, hsb₃.extBut _ _ hDC (Heap.get?_push_of_some _ (hH2 ▸ Heap.get?_push_size _ rfl)), rfl, _, rfl⟩
  have ext₁ : Ext s₁.heap h₃ := fun b o e => old b o (k₂.ext b o e)
  have F : CFx Fs mg mb X (compEnvC sc' (clOf env sc'.names []) H2.objs.size env) s₁.heap s₂.heap.objs.size := ⟨⟨by simpa [compEnvC, relabel] using CS.kind, J.ok.glob, J.ok.blt⟩, J₁.gf, J₁.xs, back _ hCn, back _ hDn⟩
  have c₀ : CSt Fs mg mb X (compEnvC sc' (clOf env sc'.names []) H2.objs.size env) s₁.heap s₂.heap.objs.size (keepFr fr σ.env) s [] { s₂ with heap := h₃, toks := s₂.toks + ([] : List (Str × Value)).length } :=
    ⟨by obtain ⟨_, _, rfl, _⟩ := k₁; obtain ⟨_, _, rfl, _⟩ := k₂; exact ⟨_, _, rfl⟩, ext₁, ⟨_, hns₃, comp_vars CS S J₁ (back _ hDn) _⟩, ⟨[], hacc, .nil⟩⟩
  have hst₃ : St' 0 h₃ := R.W.frame _ _ _ R.st fun b hb o e => old b o e
  have loop : ∀ s₃ : Shared, s₃ = { s₂ with heap := h₃, toks := s₂.toks + ([] : List (Str × Value)).length } →
      codeAny (model prog w) A (.compLoop (.ListComp ex [⟨.Name y px, ix, ifs, 0⟩] sc' p) 0 (.ref I) (.ref s₂.heap.objs.size) (compEnvC sc' (clOf env sc'.names []) H2.objs.size env))
        (compPost (model prog w) A noE use Q (.ref s₂.heap.objs.size) H2.objs.size) s₃ := by
    rintro s₃ rfl
    refine comp_loop L a (av := av) F R.W hCf hDf R.new (fun i v d hv hd => (R.rel i v d hv hd).sub fun b hb => ?_) R.wrI R.it hy (lookup_relabel_local (hy ▸ CS.xs x (.head _))) (fun k d hk e => ?_) he ht (comp_sc CS _ _)
      (fun R' I' turn n s h => codeAny_compLoop_tests I' turn n h) hgo (by simpa using hlen) hst₃ c₀ fun s' c' hk' => ?_
    · rcases List.mem_cons.mp hb with rfl | hb
      · exact .inr (back _ hDn)
      · exact .inl hb
    · obtain ⟨hf', _⟩ := look_keepFr hk
      have h1 := CS.fr k hf'
      have h2 := CS.xs x (.head _)
      rw [e, h2] at h1; cases h1
    · obtain ⟨m', hn', _⟩ := c'.ns
      obtain ⟨ls, il, rl⟩ := c'.lst
      have hCe : (compEnvC sc' (clOf env sc'.names []) H2.objs.size env).locals = H2.objs.size := rfl
      refine K _ _ s' ls (back₀ _ (back _ hDn)) (back₀ _ (back _ hCn)) (Ne.symm hDC) ⟨m', hn'⟩ ?_ il ?_
      · obtain ⟨H, tk, e⟩ := c'.sh
        refine ⟨s'.heap, s'.toks, by rw [e], fun b o e' => c'.ext b o (k₁.ext b o e')⟩
      · have := rl.sub (Y := X) fun b hb => .inl (List.mem_cons_of_mem _ hb)
        simpa using this
  exact codeAny_compStart_list (loop _ rfl) (R.W.self 0 _ _ _ hst₃ (loop _ rfl))
theorem comp_expr (L : Snd prog w Fs mg mb n v) (a : AOK n A) {elt : E} {x : Nat} {it : I} {fr : List Nat} {t : Option T} {ex : Expr} {d : D} (hs : SimE av sc (.comp elt x it fr t) ex) (S : ScOK sc env) (h : stepE v σ (.comp elt x it fr t) = some d) (J : Inv Fs mg mb X av env σ s.heap) :
    wpAny (model prog w) A (eval ex env) (EP X d s) noE s := by
  cases hs with
  | comp hi CS hy he ht hf =>
    simp only [stepE] at h
    split at h
    · rename_i ds hds
      split at h
      · rename_i ys hys
        cases hc : okLen ys.length <;> rw [hc] at h <;> cases h
        rw [eval_ListComp]
        refine comp_main L a hi CS hy he ht hf S hds hys hc J none fun Dl C s' ls hD hC hCD hn k il rl => ?_
        obtain ⟨m, hn⟩ := hn
        refine ⟨m, hn, fun h' hs' => ⟨?_, ?_⟩⟩
        · obtain ⟨h₁, tk, rfl, hk⟩ := k
          exact ⟨h', tk, rfl, fun b o e => hs'.extBut b o (fun q => by rw [q, hC] at e; cases e) (hk b o e)⟩
        · refine .lst (vs := ls) (fun hm => ?_) (il.extBut hs'.extBut (Ne.symm hCD)) (rl.stay (stay_of (B := fun b => b = C) (fun b o hb e => hs'.extBut b o hb e) fun b hb => by subst hb; exact Odd.ns hn) fun _ hb => .inl hb)
          obtain ⟨o, ho⟩ := J.xs _ hm
          rw [hD] at ho; cases ho
      · cases h
    · cases h

end
end Mine
open PySem PySem.W PyProof.Rows PySem.Calls
namespace Mine

theorem compTurn_two0 (elt t0 i0 t1 i1 : Expr) (scope : Scope) (pos : Pos) (it acc : Value) (env : Env) :
    compTurn (.ListComp elt [⟨t0, i0, [], 0⟩, ⟨t1, i1, [], 0⟩] scope pos) 0 it acc env = (standAt i0.pos >>= fun _ => pyNext it >>= fun r => match r with
      | none => pure (.done .next)
      | some v => letOwnedTupleGo t0 it v >>= fun _ => assign t0 env v >>= fun _ =>
        (eval i1 env >>= fun x => standAt i1.pos >>= fun _ => foldedSetIterable i1 env x >>= fun x => holding [x] (pyIter x) >>= fun it' =>
          runOwn (.compStart (.ListComp elt [⟨t0, i0, [], 0⟩, ⟨t1, i1, [], 0⟩] scope pos) 1 it' acc env) env >>= fun _ =>
            again (.compLoop (.ListComp elt [⟨t0, i0, [], 0⟩, ⟨t1, i1, [], 0⟩] scope pos) 0 it acc env))) := by rfl
theorem compTurn_two1 (elt t0 i0 t1 i1 : Expr) (scope : Scope) (pos : Pos) (it acc : Value) (env : Env) :
    compTurn (.ListComp elt [⟨t0, i0, [], 0⟩, ⟨t1, i1, [], 0⟩] scope pos) 1 it acc env = (standAt i1.pos >>= fun _ => pyNext it >>= fun r => match r with
      | none => pure (.done .next)
      | some v => letOwnedTupleGo t1 it v >>= fun _ => assign t1 env v >>= fun _ =>
        (eval elt env >>= fun x => call (.builtin "list.append") [acc, x] >>= fun _ => pure ()) >>= fun _ =>
          again (.compLoop (.ListComp elt [⟨t0, i0, [], 0⟩, ⟨t1, i1, [], 0⟩] scope pos) 1 it acc env)) := by rfl

section
variable {prog : Program} {w : World} {A : Around} {R : Result → Shared → Prop} {s : Shared}

theorem two_inner {elt t0 i0 i1 : Expr} {y : Str} {px : Pos} {scope : Scope} {pos : Pos} {it acc : Value} {env : Env} :
    LoopRule prog w A env (.Name y px) elt [] it acc (.compLoop (.ListComp elt [⟨t0, i0, [], 0⟩, ⟨.Name y px, i1, [], 0⟩] scope pos) 1 it acc env) := by
  intro R I turn n s h
  refine codeAny_loop rfl I (fun n s hI => ?_) n h
  show wpAny _ A ((compTurn (.ListComp elt [⟨t0, i0, [], 0⟩, ⟨.Name y px, i1, [], 0⟩] scope pos) 1 it acc env).onRaise (fun x => do noteFrame x env; theTreesLotGoes x)) _ _ s
  refine wpAny_noted ?_
  rw [compTurn_two1]
  refine wpAny_bind (wpAny_standAt (wpAny_bind (wpAny_mono (turn n s hI) (fun r s₁ h₁ => ?_) fun _ _ h' => h')))
  cases r with
  | none => exact wpAny_pure h₁
  | some v =>
    refine wpAny_bind (wpAny_pure ?_)
    refine wpAny_bind (wpAny_mono h₁ (fun _ s₂ h₂ => ?_) fun _ _ h' => h')
    rw [List.forIn_nil] at h₂
    refine wpAny_bind (wpAny_bind (wpAny_mono (Q := fun x s₄ => wpAny (model prog w) A (call (.builtin "list.append") [acc, x]) (fun _ s₅ => ∃ m, m < n ∧ I m s₅) (notedBy (model prog w) A env fun e s' => R (.error e) s') s₄) ?_ (fun x s₄ h₄ => wpAny_bind (wpAny_mono h₄ (fun _ s₅ h₅ => wpAny_pure (wpAny_pure ⟨rfl, h₅⟩)) fun _ _ h' => h')) fun _ _ h' => h'))
    intro Γ p hΓ
    have h₃ := h₂ Γ p hΓ
    rw [Sem.wp_pure', if_pos rfl] at h₃
    exact h₃ Γ p hΓ

theorem two_outer {elt i0 t1 i1 : Expr} {y : Str} {px : Pos} {scope : Scope} {pos : Pos} {it acc : Value} {env : Env} (hf : ∀ x, foldedSetIterable i1 env x = pure x) (I : Nat → Shared → Prop)
    (turn : ∀ n s, I n s → wpAny (model prog w) A (pyNext it) (fun r s₁ => match r with
      | none => R (.ok .next) s₁
      | some v => wpAny (model prog w) A (assign (.Name y px) env v) (fun _ s₂ => wpAny (model prog w) A (eval i1 env) (fun x s₃ => wpAny (model prog w) A (pyIter x) (fun it' s₄ =>
          codeAny (model prog w) A (.compStart (.ListComp elt [⟨.Name y px, i0, [], 0⟩, ⟨t1, i1, [], 0⟩] scope pos) 1 it' acc env) (fun r s₅ => match r with | .ok _ => ∃ m, m < n ∧ I m s₅ | .error _ => False) s₄)
          noE s₃) noE s₂) noE s₁) noE s)
    (n : Nat) (h : I n s) : codeAny (model prog w) A (.compLoop (.ListComp elt [⟨.Name y px, i0, [], 0⟩, ⟨t1, i1, [], 0⟩] scope pos) 0 it acc env) R s := by
  refine codeAny_loop rfl I (fun n s hI => ?_) n h
  show wpAny _ A ((compTurn (.ListComp elt [⟨.Name y px, i0, [], 0⟩, ⟨t1, i1, [], 0⟩] scope pos) 0 it acc env).onRaise (fun x => do noteFrame x env; theTreesLotGoes x)) _ _ s
  refine wpAny_noted ?_
  rw [compTurn_two0]
  refine wpAny_bind (wpAny_standAt (wpAny_bind (lift (turn n s hI) fun r s₁ h₁ => ?_)))
  cases r with
  | none => exact wpAny_pure h₁
  | some v =>
    refine wpAny_bind (wpAny_pure ?_)
    refine wpAny_bind (lift h₁ fun _ s₂ h₂ => ?_)
    refine wpAny_bind (lift h₂ fun x s₃ h₃ => ?_)
    refine wpAny_bind (wpAny_standAt (wpAny_bind (wpAny_of_eq (hf x) (wpAny_bind (wpAny_holding (lift h₃ fun it' s₄ h₄ => ?_))))))
    refine wpAny_bind (wpAny_runOwn (codeAny_mono (R := fun r s₅ => match r with | .ok _ => ∃ m, m < n ∧ I m s₅ | .error _ => False) h₄ fun r s' hr => ?_))
    cases r with
    | ok f => exact wpAny_pure ⟨rfl, hr⟩
    | error e => exact hr.elim

theorem two_start {elt t0 i0 t1 i1 : Expr} {scope : Scope} {pos : Pos} {it acc : Value} {env : Env}
    (h0 : codeAny (model prog w) A (.compLoop (.ListComp elt [⟨t0, i0, [], 0⟩, ⟨t1, i1, [], 0⟩] scope pos) 1 it acc env) R s)
    (h : wpAny (model prog w) A (pyIter it) (fun it' s' => codeAny (model prog w) A (.compLoop (.ListComp elt [⟨t0, i0, [], 0⟩, ⟨t1, i1, [], 0⟩] scope pos) 1 it' acc env) R s') (notedBy (model prog w) A env fun x s' => R (.error x) s') s) :
    codeAny (model prog w) A (.compStart (.ListComp elt [⟨t0, i0, [], 0⟩, ⟨t1, i1, [], 0⟩] scope pos) 1 it acc env) R s := by
  refine codeAny_of_tree ?_
  show wpAny _ _ ((compStart (.ListComp elt [⟨t0, i0, [], 0⟩, ⟨t1, i1, [], 0⟩] scope pos) 1 it acc env).onRaise (fun x => do noteFrame x env; standAt theWindowsPlace)) _ _ s
  refine wpAny_notedAt ?_
  unfold compStart
  show wpAny _ _ (ask >>= _) _ _ s
  refine wpAny_bind (wpAny_askSetting (wpAny_ite ?_))
  split
  · first
      | exact wpAny_bind (wpAny_pure (wpAny_pure (And.intro rfl h0)))
      | exact wpAny_pure (And.intro rfl h0)
  · first
      | exact wpAny_bind (wpAny_rule (wpAny_bind (wpAny_standAt (wpAny_bind (wpAny_mono h (fun it' s' h' => wpAny_pure (And.intro rfl h')) fun _ _ x => x)))))
      | (refine wpAny_bind (wpAny_rule ?_); show wpAny _ _ (standAt i1.pos >>= _) _ _ s; exact wpAny_bind (wpAny_standAt (wpAny_bind (wpAny_mono h (fun it' s' h' => wpAny_pure (And.intro rfl h')) fun _ _ x => x))))
end
end Mine
open PySem PySem.W PyProof.Rows PySem.Calls
namespace Mine

section
variable {prog : Program} {w : World} {Fs : Addr → Option Obj} {mg mb : Str → Option Value} {A : Around} {X : List Addr} {av : Nat} {env : Env} {σ : St} {s : Shared} {sc : Scope} {v : Ev} {n : Nat}

theorem compGo2_cons {v : Ev} {elt : E} {x y : Nat} {it2 : I} {ρ : List (Nat × D)} {d : D} {ds zs : List D} (h : compGo2 v elt x y it2 ρ (d :: ds) = some zs) :
    ∃ es ys zs', evalI v ⟨(x, d) :: ρ, none⟩ it2 = some es ∧ compGo v elt y none ((x, d) :: ρ) es = some ys ∧ compGo2 v elt x y it2 ρ ds = some zs' ∧ zs = ys ++ zs' := by
  dsimp only [compGo2] at h
  split at h
  · rename_i es hes
    split at h
    · rename_i ys hys
      split at h
      · rename_i zs' hzs
        cases h
        exact ⟨es, ys, zs', hes, hys, hzs, rfl⟩
      · cases h
    · cases h
  · cases h
theorem comp_loop2 (L : Snd prog w Fs mg mb n v) (a : AOK n A) {cenv : Env} {h₀ : Heap} {Dl : Addr} {ρ : List (Nat × D)} {s₀ : Shared} (F : CFx Fs mg mb X cenv h₀ Dl) {I : Addr} {ds : List D} {fp wr : List Addr} {P : Nat → Value → Prop} {St' : Nat → Heap → Prop}
    (W : Walks prog w A I fp wr ds.length P St') (hCf : cenv.locals ∉ fp) (hDf : Dl ∉ fp) (hnew : ∀ b ∈ wr, h₀.get? b = none) (hrel : ∀ i v d, P i v → ds[i]? = some d → Rel (Dl :: X) h₀ v d)
    (hwrI : ∀ b ∈ wr, b = I) (hit : ∀ i h, St' i h → ∃ o, h.get? I = some o ∧ (o.cls = .type "list_iterator" ∨ o.cls = .type "range_iterator")) (hfp : ∀ i h, St' i h → ∀ b ∈ fp, ∃ o, h.get? b = some o)
    {x y : Nat} {nx ny : Str} {px py : Pos} {elt : E} {ex i0 i1 : Expr} {it2 : Mine.I} {pos : Pos} (hnx : nx = nm x) (hny : ny = nm y) (hx : cenv.kindOf nx = some .local) (hy : cenv.kindOf ny = some .local) (hxy : x ≠ y)
    (hρ : ∀ n d, look n ρ = some d → n ≠ x ∧ n ≠ y) (hρv : ∀ m n d, look n ρ = some d → VarOK cenv m h₀ (Dl :: X) n d)
    (hs : SimE av sc elt ex) (hi2 : SimI av sc it2 i1) (hf2 : ∀ v env, foldedSetIterable i1 env v = pure v) (S : ScOK sc cenv) {R : Result → Shared → Prop}
    {ys : List D} (hgo : compGo2 v elt x y it2 ρ ds = some ys) (hlen : okLen ys.length = true) {s : Shared} (hst : St' 0 s.heap) (hc : CSt Fs mg mb X cenv h₀ Dl ρ s₀ [] s)
    (hR : ∀ s', CSt Fs mg mb X cenv h₀ Dl ρ s₀ ys s' → R (.ok .next) s') :
    codeAny (model prog w) A (.compLoop (.ListComp ex [⟨.Name nx px, i0, [], 0⟩, ⟨.Name ny py, i1, [], 0⟩] sc pos) 0 (.ref I) (.ref Dl) cenv) R s := by
  have hCw : cenv.locals ∉ wr := fun h => hCf (W.sub _ h)
  have hDw : Dl ∉ wr := fun h => hDf (W.sub _ h)
  refine two_outer (hf2 · cenv) (fun k s' => ∃ i outs zs, k = ds.length + 1 - i ∧ i ≤ ds.length ∧ compGo2 v elt x y it2 ρ (ds.drop i) = some zs ∧ outs ++ zs = ys ∧ St' i s'.heap ∧ CSt Fs mg mb X cenv h₀ Dl ρ s₀ outs s')
    ?_ _ ⟨0, [], ys, rfl, Nat.zero_le _, by simpa using hgo, rfl, hst, hc⟩
  rintro k s' ⟨i, outs, zs, rfl, hi, hg, hcat, hst', hc'⟩
  obtain ⟨m, hn, hv⟩ := hc'.ns
  obtain ⟨ls, il, rl⟩ := hc'.lst
  have hCD : cenv.locals ≠ Dl := fun e => NsList (e ▸ hn) il
  by_cases hlt : i < ds.length
  · obtain ⟨d, hd⟩ : ∃ d, ds[i]? = some d := ⟨_, List.getElem?_eq_getElem hlt⟩
    have hdrop : ds.drop i = d :: ds.drop (i + 1) := by
      rw [List.drop_eq_getElem_cons hlt]
      congr 1
      rw [List.getElem?_eq_getElem hlt] at hd
      exact Option.some.inj hd
    rw [hdrop] at hg
    obtain ⟨es, ys₁, zs', hes, hys₁, hg', rfl⟩ := compGo2_cons hg
    refine W.item i s' _ _ hlt hst' fun vv h' tk hPv hst₁ hk₁ => ?_
    have rv := hrel i vv d hPv hd
    refine wpAny_assign_Name (wpAny_storeName_local hx (hn.at' fun o e => hk₁ _ o hCw e) (fun h₂ hn₂ hs₂ => ?_) (by have := F.ok.kind; rw [this]; rfl))
    have up : ∀ b o, b ≠ cenv.locals → b ∉ wr → s'.heap.get? b = some o → h₂.get? b = some o := fun b o hbC hbw e => hs₂.extBut b o hbC (hk₁ b o hbw e)
    have hst₂ : St' (i + 1) h₂ := W.frame _ _ _ hst₁ fun b hb o e => hs₂.extBut b o (fun h => hCf (h ▸ hb)) e
    have ext₂ : Ext h₀ h₂ := fun b o e => up b o (fun q => by rw [q, F.C] at e; cases e) (fun q => by rw [hnew b q] at e; cases e) (hc'.ext b o e)
    have varx : VarOK cenv (fun z => if z = nx then some vv else m z) h₀ (Dl :: X) x d := .inl ⟨hnx ▸ hx, vv, by simp [hnx], rv⟩
    have vars₂ : ∀ k c, look k ((x, d) :: ρ) = some c → VarOK cenv (fun z => if z = nx then some vv else m z) h₀ (Dl :: X) k c := fun k c hkc => by
      dsimp only [look] at hkc
      cases hb : Nat.beq k x with
      | true =>
        rw [hb] at hkc
        cases hkc
        have : k = x := Nat.eq_of_beq_eq_true hb
        subst this
        exact varx
      | false =>
        rw [hb] at hkc
        exact hρv _ k c hkc
    have rl₂ : RelL (Dl :: X) h₂ ls outs := rl.stay (stay_of (B := fun b => b = cenv.locals ∨ b ∈ wr) (fun b o hb e => up b o (fun q => hb (.inl q)) (fun q => hb (.inr q)) e) fun b hb => by
      rcases hb with rfl | hb
      · exact Odd.ns hn
      · exact Odd.it (hwrI b hb ▸ hit i _ hst')) fun b hb => .inl hb
    have il₂ : h₂.IsList Dl ls.toArray := by
      obtain ⟨o, ho, r⟩ := il
      exact ⟨o, up _ _ (Ne.symm hCD) hDw ho, r⟩
    have c₂ : CSt Fs mg mb X cenv h₀ Dl ((x, d) :: ρ) s₀ outs { s' with heap := h₂, toks := tk + 1 } := by
      refine ⟨?_, ext₂, ⟨_, hn₂, vars₂⟩, ⟨ls, il₂, rl₂⟩⟩
      obtain ⟨H, tk', rfl⟩ := hc'.sh; exact ⟨h₂, _, rfl⟩
    refine mono (iter_ok L a hi2 S hes (c₂.inv (av := av) F)) fun xv s₃ h₃ => mono h₃ fun itv s₄ h₄ => ?_
    obtain ⟨I₂, fp₂, wr₂, P₂, St₂, rfl, k₃, k₄, R₂⟩ := h₄
    have c₃ := c₂.kp k₃
    have c₄ := c₃.kp k₄
    have hst₄ : St' (i + 1) s₄.heap := W.frame _ _ _ hst₂ fun b _ o e => k₄.ext b o (k₃.ext b o e)
    obtain ⟨m₃, hn₃, hv₃⟩ := c₃.ns
    obtain ⟨ls₃, il₃, rl₃⟩ := c₃.lst
    have nothere : ∀ b o, h₀.get? b = some o → b ∉ [cenv.locals, Dl] := fun b o e hm => by
      rcases List.mem_cons.mp hm with rfl | hm
      · rw [F.C] at e; cases e
      · rw [List.mem_singleton.mp hm, F.D] at e; cases e
    have extA : Ext h₀ (hideAll s₃.heap [cenv.locals, Dl]) := fun b o e => hideAll_get _ (c₃.ext b o e) (nothere b o e)
    have extB : Ext (hideAll s₃.heap [cenv.locals, Dl]) s₄.heap := fun b o e => k₄.ext b o (of_hideAll _ e)
    have F₂ : CFx Fs mg mb X cenv (hideAll s₃.heap [cenv.locals, Dl]) Dl := ⟨F.ok, F.gf.ext extA, fun a ha => let ⟨o, ho⟩ := F.xs a ha; ⟨o, extA _ _ ho⟩, hideAll_none _ (.head _), hideAll_none _ (.tail _ (.head _))⟩
    have hfpC : ∀ b ∈ fp₂, b ≠ cenv.locals ∧ b ≠ Dl := fun b hb => by
      obtain ⟨o, ho, h1, _, h3⟩ := R₂.fpk b hb
      constructor
      · rintro rfl
        obtain ⟨o', es', ep, ho', hd', _⟩ := hn₃.keeps k₄.ext
        rw [ho] at ho'; cases ho'; exact h1 _ _ hd'
      · rintro rfl
        obtain ⟨o', ho', hcl, _⟩ := IsListE k₄.ext il₃
        rw [ho] at ho'; cases ho'; exact h3 hcl (.head _)
    have relH : ∀ {vv d}, Rel (Dl :: X) s₃.heap vv d → Rel (Dl :: X) (hideAll s₃.heap [cenv.locals, Dl]) vv d := fun r => r.stay (stay_of (B := fun b => b ∈ [cenv.locals, Dl]) (fun b o hb e => hideAll_get _ e hb) fun b hb => by
      rcases List.mem_cons.mp hb with rfl | hb
      · exact Odd.ns hn₃
      · rw [List.mem_singleton.mp hb]; exact Odd.lst il₃ (.head _)) fun b hb => .inl hb
    have cin : CSt Fs mg mb X cenv (hideAll s₃.heap [cenv.locals, Dl]) Dl ((x, d) :: ρ) s₀ outs s₄ := by
      obtain ⟨m₄, hn₄, hv₄⟩ := c₄.ns
      exact ⟨c₄.sh, extB, ⟨m₄, hn₄, fun k c hk => (hv₄ k c hk).ext extA⟩, c₄.lst⟩
    have inner : codeAny (model prog w) A (.compLoop (.ListComp ex [⟨.Name nx px, i0, [], 0⟩, ⟨.Name ny py, i1, [], 0⟩] sc pos) 1 (.ref I₂) (.ref Dl) cenv) (fun r s₅ => match r with | .ok _ => ∃ m, m < ds.length + 1 - i ∧ ∃ i outs zs, m = ds.length + 1 - i ∧ i ≤ ds.length ∧ compGo2 v elt x y it2 ρ (ds.drop i) = some zs ∧ outs ++ zs = ys ∧ St' i s₅.heap ∧ CSt Fs mg mb X cenv h₀ Dl ρ s₀ outs s₅ | .error _ => False) s₄ := by
      refine comp_loop L a (av := av) F₂ R₂.W (fun hm => (hfpC _ hm).1 rfl) (fun hm => (hfpC _ hm).2 rfl) (fun b hb => ?_) (fun i v d hv hd => relH (R₂.rel i v d hv hd)) R₂.wrI R₂.it hny hy (fun k c hk => ?_) hs .none S two_inner hys₁ ?_ R₂.st cin fun s₅ c₅ hk₅ => ?_
      · cases e : (hideAll s₃.heap [cenv.locals, Dl]).get? b with
        | none => rfl
        | some o => have := of_hideAll _ e; rw [R₂.new b hb] at this; cases this
      · dsimp only [look] at hk
        cases hb : Nat.beq k x with
        | true =>
          have : k = x := Nat.eq_of_beq_eq_true hb
          rw [this]; exact hxy
        | false =>
          rw [hb] at hk
          exact (hρ k c hk).2
      · have h1 := okLen_le hlen
        have h2 := congrArg List.length hcat
        simp only [List.length_append] at h2
        exact Nat.ble_eq_true_of_le (by omega)
      · refine ⟨ds.length + 1 - (i + 1), by omega, i + 1, outs ++ ys₁, zs', rfl, hlt, hg', by rw [← hcat]; simp, ?_, ?_⟩
        · refine W.frame _ _ _ hst₄ fun b hb o e => hk₅ b o (fun q => hCf (q ▸ hb)) (fun q => hDf (q ▸ hb)) (fun hw => ?_) e
          obtain ⟨o₂, ho₂⟩ := hfp _ _ hst₂ b hb
          have := k₃.ext _ _ ho₂
          rw [R₂.new b hw] at this; cases this
        · obtain ⟨m₅, hn₅, _⟩ := c₅.ns
          exact ⟨c₅.sh, fun b o e => c₅.ext b o (extA b o e), ⟨m₅, hn₅, hρv m₅⟩, c₅.lst⟩
    exact two_start inner (R₂.W.self 0 _ _ _ R₂.st inner)
  · have hin : i = ds.length := by omega
    subst hin
    rw [List.drop_length] at hg
    dsimp only [compGo2] at hg
    cases hg
    refine W.done _ _ _ hst' fun h' tk hk₁ => ?_
    rw [List.append_nil] at hcat
    subst hcat
    refine hR _ ⟨?_, fun b o e => hk₁ b o (fun q => by rw [hnew b q] at e; cases e) (hc'.ext b o e), ⟨m, hn.at' fun o e => hk₁ _ o hCw e, hv⟩, ⟨ls, ?_, ?_⟩⟩
    · obtain ⟨H, tk', rfl⟩ := hc'.sh; exact ⟨h', _, rfl⟩
    · obtain ⟨o, ho, r⟩ := il
      exact ⟨o, hk₁ _ _ hDw ho, r⟩
    · exact rl.stay (stay_of (B := fun b => b ∈ wr) (fun b o hb e => hk₁ b o hb e) fun b hb => Odd.it (hwrI b hb ▸ hit _ _ hst')) fun b hb => .inl hb

end
end Mine
open PySem PySem.W PyProof.Rows PySem.Calls
namespace Mine

section
variable {prog : Program} {w : World} {Fs : Addr → Option Obj} {mg mb : Str → Option Value} {A : Around} {X : List Addr} {av : Nat} {env : Env} {σ : St} {s : Shared} {sc : Scope} {v : Ev} {n : Nat}
theorem comp2_main (L : Snd prog w Fs mg mb n v) (a : AOK n A) {elt : E} {x y : Nat} {it it2 : I} {fr : List Nat} {ex ix ix2 : Expr} {nx ny : Str} {sc' : Scope} {px py p q : Pos} {ds ys : List D} (hi : SimI av sc it ix) (CS : CompSc sc sc' fr [x, y]) (hnx : nx = nm x) (hny : ny = nm y) (hxy : x ≠ y) (hi2 : SimI av sc' it2 ix2)
    (he : SimE av sc' elt ex) (hf : ∀ v env, foldedSetIterable ix env v = pure v) (hf2 : ∀ v env, foldedSetIterable ix2 env v = pure v) (S : ScOK sc env) (h : evalI v σ it = some ds) (hgo : compGo2 v elt x y it2 (keepFr fr σ.env) ds = some ys) (hlen : okLen ys.length = true)
    (J : Inv Fs mg mb X av env σ s.heap) (use : Option (Value → Sem Unit)) {Q : Value → Shared → Prop}
    (K : ∀ Dl C s' ls, s.heap.get? Dl = none → s.heap.get? C = none → C ≠ Dl → (∃ m, s'.heap.Ns C m) → Kp s s' → s'.heap.IsList Dl ls.toArray → RelL X s'.heap ls ys → compPost (model prog w) A noE use Q (.ref Dl) C (.ok .next) s') :
    wpAny (model prog w) A (comprehension (.ListComp ex [⟨.Name nx px, ix, [], 0⟩, ⟨.Name ny py, ix2, [], 0⟩] sc' p) sc' env q (newList []) false (eval ix env) use) Q noE s := by
  refine wpAny_comprehension_free rfl (fun v => hf v env) (comp_closure CS S) CS.kind CS.names (mono (iter_ok L a hi S h J) fun xv s₁ h₁ => mono h₁ fun itv s₂ h₂ => ?_)
  obtain ⟨I, fp, wr, P, St', rfl, k₁, k₂, R⟩ := h₂
  refine wpAny_newObj_type (wpAny_newFunctionEnv CS.nocell (by intro y hy; simp at hy) (fun h₃ hns₃ hsb₃ => ?_) CS.kind)
  dsimp only at hns₃ hsb₃ ⊢
  generalize hH2 : s₂.heap.push { cls := .type "list", dict := none, data := .seq ([] : List Value).toArray } = H2 at hns₃ hsb₃ ⊢
  have hC : H2.objs.size = s₂.heap.objs.size + 1 := by rw [← hH2, Heap.size_push]
  have hDC : s₂.heap.objs.size ≠ H2.objs.size := by rw [hC]; exact Nat.ne_of_lt (Nat.lt_succ_self _)
  have old : ∀ b o, s₂.heap.get? b = some o → h₃.get? b = some o := fun b o e => hsb₃.extBut b o (by rw [hC]; exact Nat.ne_of_lt (Nat.lt_succ_of_lt (Heap.lt_size e))) (Heap.get?_push_of_some _ (hH2 ▸ Heap.get?_push_of_some _ e))
  have fresh : ∀ a, s₂.heap.objs.size ≤ a → s₂.heap.get? a = none := fun a ha => by
    cases e : s₂.heap.get? a with
    | none => rfl
    | some o' => exact absurd (Heap.lt_size e) (Nat.not_lt.mpr ha)
  have back : ∀ a, s₂.heap.get? a = none → s₁.heap.get? a = none := fun a ha => by
    cases e : s₁.heap.get? a with
    | none => rfl
    | some o' => have := k₂.ext _ _ e; rw [ha] at this; cases this
  have back₀ : ∀ a, s₁.heap.get? a = none → s.heap.get? a = none := fun a ha => by
    cases e : s.heap.get? a with
    | none => rfl
    | some o' => have := k₁.ext _ _ e; rw [ha] at this; cases this
  have hDn := fresh s₂.heap.objs.size (Nat.le_refl _)
  have hCn := fresh H2.objs.size (by rw [hC]; exact Nat.le_succ _)
  have J₁ := J.ext k₁.ext
  have hfp : ∀ b ∈ fp, ∃ o, s₂.heap.get? b = some o := fun b hb => let ⟨o, ho, _⟩ := R.fpk b hb; ⟨o, ho⟩
  have hDf : s₂.heap.objs.size ∉ fp := fun hm => by obtain ⟨o, ho⟩ := hfp _ hm; rw [hDn] at ho; cases ho
  have hCf : H2.objs.size ∉ fp := fun hm => by obtain ⟨o, ho⟩ := hfp _ hm; rw [hCn] at ho; cases ho
  have hacc : h₃.IsList s₂.heap.objs.size ([] : List Value).toArray := ⟨_, hsb₃.extBut _ _ hDC (Heap.get?_push_of_some _ (hH2 ▸ Heap.get?_push_size _ rfl)), rfl, _, rfl⟩
  have ext₁ : Ext s₁.heap h₃ := fun b o e => old b o (k₂.ext b o e)
  have F : CFx Fs mg mb X (compEnvC sc' (clOf env sc'.names []) H2.objs.size env) s₁.heap s₂.heap.objs.size := ⟨⟨by simpa [compEnvC, relabel] using CS.kind, J.ok.glob, J.ok.blt⟩, J₁.gf, J₁.xs, back _ hCn, back _ hDn⟩
  have c₀ : CSt Fs mg mb X (compEnvC sc' (clOf env sc'.names []) H2.objs.size env) s₁.heap s₂.heap.objs.size (keepFr fr σ.env) s [] { s₂ with heap := h₃, toks := s₂.toks + ([] : List (Str × Value)).length } :=
    ⟨by obtain ⟨_, _, rfl, _⟩ := k₁; obtain ⟨_, _, rfl, _⟩ := k₂; exact ⟨_, _, rfl⟩, ext₁, ⟨_, hns₃, comp_vars CS S J₁ (back _ hDn) _⟩, ⟨[], hacc, .nil⟩⟩
  have hst₃ : St' 0 h₃ := R.W.frame _ _ _ R.st fun b hb o e => old b o e
  have loop : ∀ s₃ : Shared, s₃ = { s₂ with heap := h₃, toks := s₂.toks + ([] : List (Str × Value)).length } →
      codeAny (model prog w) A (.compLoop (.ListComp ex [⟨.Name nx px, ix, [], 0⟩, ⟨.Name ny py, ix2, [], 0⟩] sc' p) 0 (.ref I) (.ref s₂.heap.objs.size) (compEnvC sc' (clOf env sc'.names []) H2.objs.size env))
        (compPost (model prog w) A noE use Q (.ref s₂.heap.objs.size) H2.objs.size) s₃ := by
    rintro s₃ rfl
    have hfree : ∀ k d, look k (keepFr fr σ.env) = some d → k ≠ x ∧ k ≠ y := fun k d hk => by
      obtain ⟨hf', _⟩ := look_keepFr hk
      have h1 := CS.fr k hf'
      constructor
      · intro e; rw [e, CS.xs x (.head _)] at h1; cases h1
      · intro e; rw [e, CS.xs y (.tail _ (.head _))] at h1; cases h1
    refine comp_loop2 L a (av := av) F R.W hCf hDf R.new (fun i v d hv hd => (R.rel i v d hv hd).sub fun b hb => ?_) R.wrI R.it R.fpx hnx hny (lookup_relabel_local (hnx ▸ CS.xs x (.head _))) (lookup_relabel_local (hny ▸ CS.xs y (.tail _ (.head _)))) hxy hfree
      (fun m => comp_vars CS S J₁ (back _ hDn) m) he hi2 hf2 (comp_sc CS _ _) hgo hlen hst₃ c₀ fun s' c' => ?_
    · rcases List.mem_cons.mp hb with rfl | hb
      · exact .inr (back _ hDn)
      · exact .inl hb
    · obtain ⟨m', hn', _⟩ := c'.ns
      obtain ⟨ls, il, rl⟩ := c'.lst
      have hCe : (compEnvC sc' (clOf env sc'.names []) H2.objs.size env).locals = H2.objs.size := rfl
      refine K _ _ s' ls (back₀ _ (back _ hDn)) (back₀ _ (back _ hCn)) (Ne.symm hDC) ⟨m', hn'⟩ ?_ il ?_
      · obtain ⟨H, tk, e⟩ := c'.sh
        refine ⟨s'.heap, s'.toks, by rw [e], fun b o e' => c'.ext b o (k₁.ext b o e')⟩
      · have := rl.sub (Y := X) fun b hb => .inl (List.mem_cons_of_mem _ hb)
        exact this
  exact codeAny_compStart_list (loop _ rfl) (R.W.self 0 _ _ _ hst₃ (loop _ rfl))


theorem comp2_expr (L : Snd prog w Fs mg mb n v) (a : AOK n A) {elt : E} {x y : Nat} {it it2 : I} {fr : List Nat} {ex : Expr} {d : D} (hs : SimE av sc (.comp2 elt x it y it2 fr) ex) (S : ScOK sc env) (h : stepE v σ (.comp2 elt x it y it2 fr) = some d) (J : Inv Fs mg mb X av env σ s.heap) :
    wpAny (model prog w) A (eval ex env) (EP X d s) noE s := by
  cases hs with
  | comp2 hi CS hnx hny hxy hi2 he hf hf2 =>
    simp only [stepE] at h
    split at h
    · rename_i ds hds
      split at h
      · rename_i ys hys
        cases hc : okLen ys.length <;> rw [hc] at h <;> cases h
        rw [eval_ListComp]
        refine comp2_main L a hi CS hnx hny hxy hi2 he hf hf2 S hds hys hc J none fun Dl C s' ls hD hC hCD hn k il rl => ?_
        obtain ⟨m, hn⟩ := hn
        refine ⟨m, hn, fun h' hs' => ⟨?_, ?_⟩⟩
        · obtain ⟨h₁, tk, rfl, hk⟩ := k
          exact ⟨h', tk, rfl, fun b o e => hs'.extBut b o (fun q => by rw [q, hC] at e; cases e) (hk b o e)⟩
        · refine .lst (vs := ls) (fun hm => ?_) (il.extBut hs'.extBut (Ne.symm hCD)) (rl.stay (stay_of (B := fun b => b = C) (fun b o hb e => hs'.extBut b o hb e) fun b hb => by subst hb; exact Odd.ns hn) fun _ hb => .inl hb)
          obtain ⟨o, ho⟩ := J.xs _ hm
          rw [hD] at ho; cases ho
      · cases h
    · cases h

end
end Mine
open PySem PySem.W PyProof.Rows PySem.Calls
set_option maxRecDepth 100000
namespace Mine
open Builtin

theorem fold_bytes : ∀ (l : List Nat) (acc : Array UInt8), l.foldl (fun acc y => acc ++ [y.toUInt8].toArray) acc = acc ++ (l.map (·.toUInt8)).toArray
  | [], acc => by simp
  | c :: l, acc => by
    rw [List.foldl_cons, fold_bytes l]
    apply Array.toList_inj.mp
    simp

theorem forIn_done {α β : Type} {l : List α} {f : α → β → Sem (ForInStep β)} {s₀ s₁ : β} (hne : l ≠ []) (h0 : ∀ x, f x s₀ = pure (.yield s₁)) (h1 : ∀ x, f x s₁ = pure (.done s₁)) : forIn l s₀ f = pure s₁ := by
  cases l with
  | nil => exact absurd rfl hne
  | cons a r =>
    rw [List.forIn_cons, h0, pure_bind]
    cases r with
    | nil => simp only [List.forIn_nil]
    | cons b r => simp only [List.forIn_cons, h1, pure_bind]

theorem ascii_narrow (id : String) (self : Value) (x : Str) (h : x.cps.all (fun c => Nat.blt c 128) = true) (hs : x.length ≤ sizeLine) : _codecs.encodeNarrow id _codecs.asciiCodec none self x = pure (x.cps.map (·.toUInt8)) := by
  have hbad : ∀ c ∈ x.cps, _codecs.asciiCodec.bad c = false := fun c hc => by
    have := Array.all_eq_true_iff_forall_mem.mp h c hc
    have h2 : c < 128 := Nat.le_of_ble_eq_true this
    show decide (c ≥ 128) = false
    exact decide_eq_false (by omega)
  unfold _codecs.encodeNarrow
  dsimp only
  rw [Std.Legacy.Range.forIn_eq_forIn_range']
  have hsz : ([0 : x.length] : Std.Legacy.Range).size = x.length := by simp [Std.Legacy.Range.size]
  rw [hsz]
  cases hl : x.length with
  | zero =>
    have e : x.cps = #[] := by simpa [Str.length] using hl
    rw [List.range'_zero, List.forIn_nil, pure_bind, e]; simp
  | succ k =>
    rw [forIn_done (s₁ := (x.length, x.cps.map (·.toUInt8), ({} : _codecs.Faults))) (by simp) ?_ ?_]
    · rfl
    · intro _
      have h0 : ∃ c, x.cps[0]? = some c ∧ c ∈ x.cps := by
        have hlt : 0 < x.cps.size := by have : x.cps.size = k + 1 := hl; omega
        exact ⟨x.cps[0], by simp [hlt], Array.getElem_mem hlt⟩
      obtain ⟨c, hc, hm⟩ := h0
      have hfind : Array.findIdx? _codecs.asciiCodec.bad (x.cps.extract 0) = none := by
        rw [Array.findIdx?_eq_none_iff]
        intro y hy
        refine hbad y ?_
        simpa using hy
      have hfold : Array.foldl (fun acc y => acc ++ (_codecs.asciiCodec.bytesOf y).toArray) #[] ((x.cps.extract 0).extract 0 (x.cps.extract 0).size) = x.cps.map (·.toUInt8) := by
        have e : (x.cps.extract 0).extract 0 (x.cps.extract 0).size = x.cps := by simp
        rw [e, ← Array.foldl_toList]
        have := fold_bytes x.cps.toList #[]
        refine (this : _ = _).trans ?_
        apply Array.toList_inj.mp
        simp
      rw [if_neg (by simp)]
      simp only [hc, hbad c hm, hfind, Bool.not_false, if_true, Option.getD_none]
      rw [hfold]
      simp [Str.length]
    · intro _
      rw [if_neg (by simp only [Array.size_map]; exact Nat.not_lt.mpr hs)]
      have : x.cps[x.length]? = none := by simp [Str.length]
      simp only [this]

theorem encode_eq (x : Str) (t u : Tok) : «str.encode» ⟨[.str x t, .str (PySem.Str.ofString "ascii") u], []⟩ = ((_codecs.encodeNarrow "str.encode" _codecs.asciiCodec none (.str x t) x >>= fun b => mkBytes b) >>= fun v => ret v) := by kernel_rfl
theorem split_eq (b : Array UInt8) (t u : Tok) : «bytes.split» ⟨[.bytes b t, .bytes #[13, 10] u], []⟩ =
   (if ((Bytes.occurrences b #[13, 10] 0 b.size).take (b.size + 1)).isEmpty = true then rule "bytes.split.no-separator" >>= fun _ => newList [.bytes b t] >>= fun v => ret v else
    (Bytes.between b 2 ((Bytes.occurrences b #[13, 10] 0 b.size).take (b.size + 1))).mapM mkBytes >>= fun vs => newList vs >>= fun v => ret v) := by kernel_rfl

theorem slot_bytes_split : Slot "bytes" "split" "bytes.split" :=
  .of (owner := "bytes") (n := "split") (by rw [typeLookup_type, builtinLookup_eq_fast]; kernel_rfl) (by decide +kernel) (by decide +kernel) (by decide +kernel)
    (by first | exact .inl (by decide +kernel) | exact .inr (by decide +kernel)) (by rw [isSubtype_type]; kernel_rfl)
theorem entry_bytes_split : entryFor table "bytes.split" = some Builtin.«bytes.split» := entryFor_of_tree (by kernel_rfl)
theorem args_bytes_split (a b : Value) : argsOk "bytes.split" ⟨[a, b], []⟩ := by unfold argsOk; kernel_rfl
theorem type_bytes_split : typeOf (.builtin "bytes.split") = pure (.type "method_descriptor") := by show builtinType _ = _; rw [builtinType_eq_fast]; kernel_rfl

section
variable {prog : Program} {w : World} {Fs : Addr → Option Obj} {mg mb : Str → Option Value} {A : Around} {X : List Addr} {av : Nat} {env : Env} {σ : St} {s : Shared} {sc : Scope} {v : Ev} {n : Nat}

theorem mkBytes_ok {M : Model} {b : Array UInt8} {Q : Value → Shared → Prop} {E : Value → Shared → Prop} (hb : b.size ≤ sizeLine) (h : Q (.bytes b s.toks) { s with toks := s.toks + 1 }) : wpAny M A (mkBytes b) Q E s := by
  unfold mkBytes
  rw [if_neg (Nat.not_lt.mpr hb)]
  exact fun _ _ _ => h

theorem mkTB {M : Model} {b : Array UInt8} {Q : Value → Shared → Prop} {E : Value → Shared → Prop} (h : Q (.bytes b s.toks) { s with toks := s.toks + 1 }) : wpAny M A (mkTextBytes b) Q E s := fun _ _ _ => h
theorem enc_call {x : Str} {t u : Tok} {d : D} (h : encD (.str x) = some d) : wpAny (model prog w) A (call (.builtin "str.encode") [.str x t, .str "ascii" u]) (EP X d s) noE s := by
  unfold encD at h
  simp only at h
  cases hc : x.cps.all (fun c => Nat.blt c 128) && okLen x.length <;> rw [hc] at h <;> cases h
  simp only [Bool.and_eq_true] at hc
  refine wpAny_call_entry PySem.F.slot_str_encode (typeIs_str _ _ _) PySem.F.entry_str_encode ?_ (PySem.F.args_str_encode_2 _ _)
  rw [encode_eq, ascii_narrow _ _ _ hc.1 (okLen_size hc.2)]
  refine wpAny_bind (wpAny_bind (wpAny_pure (mkBytes_ok (by simpa [Str.length] using okLen_size hc.2) (wpAny_pure ⟨_, rfl, Kp.tok _, .bytes _ _⟩))))

theorem mapM_bytes {M : Model} : ∀ (ps : List (Array UInt8)) {Q : List Value → Shared → Prop} {s : Shared}, ps.all (fun p => okLen p.size) = true → (∀ vs s', Kp s s' → (∀ h, RelL X h vs (ps.map D.bytes)) → Q vs s') → wpAny M A (ps.mapM mkBytes) Q noE s
  | [], Q, s, _, h => by rw [List.mapM_nil]; exact wpAny_pure (h [] s (Kp.rfl' _) fun _ => .nil)
  | p :: ps, Q, s, hl, h => by
    simp only [List.all_cons, Bool.and_eq_true] at hl
    rw [List.mapM_cons]
    refine wpAny_bind (mkBytes_ok (okLen_size hl.1) (wpAny_bind (mapM_bytes ps hl.2 fun vs s' k r => wpAny_pure (h _ _ ((Kp.tok (s := s) _).trans' k) fun hh => .cons (.bytes _ _) (r hh)))))

theorem split_call {b : Array UInt8} {t u : Tok} {d : D} (hX : ∀ a ∈ X, ∃ o, s.heap.get? a = some o) (h : splitD (.bytes b) = some d) : wpAny (model prog w) A (call (.builtin "bytes.split") [.bytes b t, .bytes #[13, 10] u]) (EP X d s) noE s := by
  unfold splitD at h
  simp only at h
  cases hc : okLen (splitB b).length && (splitB b).all (fun p => okLen p.size) <;> rw [hc] at h <;> cases h
  simp only [Bool.and_eq_true] at hc
  refine wpAny_call_entry slot_bytes_split (typeIs_bytes _ _ _) entry_bytes_split ?_ (args_bytes_split _ _)
  rw [split_eq]
  unfold splitB at hc ⊢
  have hXl : ∀ a ∈ X, a < s.heap.objs.size := fun a ha => let ⟨_, ho⟩ := hX a ha; Heap.lt_size ho
  split
  · rename_i he
    rw [if_pos he] at hc
    refine wpAny_bind (wpAny_rule (wpAny_bind (mono (newList_ok (X := X) (ds := [.bytes b]) hXl (.cons (.bytes _ _) .nil) (show okLen 1 = true by decide)) fun v s' h' => wpAny_pure ⟨_, rfl, h'⟩)))
  · rename_i he
    rw [if_neg he] at hc
    refine wpAny_bind (mapM_bytes (X := X) _ hc.2 fun vs s' k r => ?_)
    refine wpAny_bind (mono (newList_ok (X := X) (fun a ha => let ⟨_, ho⟩ := hX a ha; k.ext.le ho) (r _) (by simpa using hc.1)) fun v s'' h' => wpAny_pure ⟨_, rfl, k.chain h'⟩)

theorem enc_expr (L : Snd prog w Fs mg mb n v) (a : AOK n A) {e : E} {x : Expr} {d : D} (hs : SimE av sc (.encode e) x) (S : ScOK sc env) (h : stepE v σ (.encode e) = some d) (I : Inv Fs mg mb X av env σ s.heap) : wpAny (model prog w) A (eval x env) (EP X d s) noE s := by
  cases hs with
  | encode se hm =>
    simp only [stepE] at h
    cases hx : v.e σ e with
    | none => rw [hx] at h; cases h
    | some x' =>
      rw [hx] at h
      have hstr : ∃ y, x' = .str y := by cases x' <;> first | exact ⟨_, rfl⟩ | simp [encD] at h
      obtain ⟨y, rfl⟩ := hstr
      obtain ⟨pl, he⟩ := hm env
      refine MethodCall_ (pl := pl) (mono (L.e a se S hx I) fun va s₁ h₁ => ?_) he
      obtain ⟨t, rfl⟩ := h₁.2.str_inv
      refine getMethod_builtin (typeIs_str _ _ _) PySem.F.plainAttrs_str PySem.F.slot_str_encode PySem.F.type_str_encode (fun _ e => nomatch e) ?_
      refine callWith_method1 (args_cons (wpAny_mkText (args_nil ?_)))
      exact mono (enc_call h) fun _ _ h₃ => (h₁.1.trans' (Kp.tok _)).chain h₃

theorem split_expr (L : Snd prog w Fs mg mb n v) (a : AOK n A) {e : E} {x : Expr} {d : D} (hs : SimE av sc (.split e) x) (S : ScOK sc env) (h : stepE v σ (.split e) = some d) (I : Inv Fs mg mb X av env σ s.heap) : wpAny (model prog w) A (eval x env) (EP X d s) noE s := by
  cases hs with
  | split se hm =>
    simp only [stepE] at h
    cases hx : v.e σ e with
    | none => rw [hx] at h; cases h
    | some x' =>
      rw [hx] at h
      have hstr : ∃ y, x' = .bytes y := by cases x' <;> first | exact ⟨_, rfl⟩ | simp [splitD] at h
      obtain ⟨y, rfl⟩ := hstr
      obtain ⟨pl, he⟩ := hm env
      refine MethodCall_ (pl := pl) (mono (L.e a se S hx I) fun va s₁ h₁ => ?_) he
      obtain ⟨t, rfl⟩ := h₁.2.bytes_inv
      refine getMethod_builtin (typeIs_bytes _ _ _) FB.plainAttrs_bytes slot_bytes_split type_bytes_split (fun _ e => nomatch e) ?_
      refine callWith_method1 (args_cons (mkTB (args_nil ?_)))
      exact mono (split_call (I.ext (h₁.1.trans' (Kp.tok _)).ext).xs h) fun _ _ h₃ => (h₁.1.trans' (Kp.tok _)).chain h₃
end

end Mine
open PySem PySem.W PyProof.Rows PySem.Calls
namespace Mine
noncomputable def inB {α : Type} (n : Nat) : KasT α → (α → Prop) → Prop
  | .ret a, P => P a
  | .ask i j k, P => i < n ∧ j < n ∧ ∀ b, inB n (k b) P
theorem inB_mono {α : Type} {n : Nat} {P P' : α → Prop} (hp : ∀ a, P a → P' a) : ∀ (t : KasT α), inB n t P → inB n t P'
  | .ret a, h => hp a h
  | .ask i j k, h => ⟨h.1, h.2.1, fun b => inB_mono hp (k b) (h.2.2 b)⟩
theorem inB_bind {α β : Type} {n : Nat} {P : α → Prop} {P' : β → Prop} {f : α → KasT β} : ∀ (t : KasT α), inB n t P → (∀ a, P a → inB n (f a) P') → inB n (t.bind f) P'
  | .ret a, h, hf => hf a h
  | .ask i j k, h, hf => ⟨h.1, h.2.1, fun b => inB_bind (k b) (h.2.2 b) hf⟩

noncomputable def AllLt (n : Nat) (p : Array Nat) : Prop := ∀ i ∈ p, i < n
theorem AllLt.get {n : Nat} (hn : 0 < n) {p : Array Nat} (h : AllLt n p) (i : Nat) : p.getD i 0 < n := by
  unfold Array.getD
  split
  · exact h _ (Array.getElem_mem _)
  · exact hn
theorem AllLt.perm {n : Nat} {p q : Array Nat} (h : AllLt n p) (hp : q.Perm p) : AllLt n q := fun i hi => h i ((Array.Perm.mem_iff hp).mp hi)
theorem AllLt.rev {n : Nat} {p : Array Nat} (h : AllLt n p) (i j : Nat) : AllLt n (kas_rev p i j) := h.perm (mirror_perm _ _ _ _)

variable {n : Nat} (hn : 0 < n)
include hn
theorem inB_asc {p : Array Nat} (hp : AllLt n p) : ∀ (f k : Nat), inB n (kas_asc p f k) fun _ => True
  | 0, _ => trivial
  | f + 1, k => ⟨hp.get hn _, hp.get hn _, fun b => by
      cases b with
      | true => exact trivial
      | false => exact inB_asc hp f (k + 1)⟩
theorem inB_desc : ∀ (f : Nat) (p : Array Nat) (k q : Nat), AllLt n p → inB n (kas_desc f p k q) fun r => AllLt n r.1
  | 0, _, _, _, hp => hp
  | f + 1, p, k, q, hp => ⟨hp.get hn _, hp.get hn _, fun b => by
      cases b with
      | true =>
        simp only [if_true]
        split
        · exact inB_desc f _ _ _ (hp.rev _ _)
        · exact inB_desc f _ _ _ hp
      | false =>
        simp only [Bool.false_eq_true, if_false]
        refine ⟨hp.get hn _, hp.get hn _, fun c => ?_⟩
        cases c with
        | true => exact hp
        | false => exact inB_desc f _ _ _ hp⟩
theorem inB_tail3 (m nrem : Nat) {p : Array Nat} (hp : AllLt n p) : inB n (kas_tail3 m nrem p) fun r => AllLt n r.2 :=
  inB_bind _ (inB_asc hn (hp.rev _ _) _ _) fun _ _ => hp.rev _ _
theorem inB_descPart (m nrem : Nat) {p : Array Nat} (hp : AllLt n p) : inB n (kas_descPart m nrem p) fun r => AllLt n r.2 :=
  inB_bind _ (inB_desc hn _ _ _ _ hp) fun r hr => by
    split
    · exact inB_tail3 hn _ _ (AllLt.rev hr _ _)
    · exact inB_tail3 hn _ _ hr
theorem inB_count (nrem : Nat) {p : Array Nat} (hp : AllLt n p) : inB n (kas_count nrem p) fun r => AllLt n r.2 :=
  inB_bind _ (inB_asc hn hp _ _) fun k _ => by
    split
    · exact hp
    · split
      · refine ⟨hp.get hn _, hp.get hn _, fun c => ?_⟩
        cases c with
        | true => exact hp
        | false => exact inB_descPart hn _ _ (hp.rev _ _)
      · exact inB_descPart hn _ _ hp
theorem inB_place {p : Array Nat} (hp : AllLt n p) (k : Nat) : ∀ (f l r : Nat), inB n (kas_place p k f l r) fun _ => True
  | 0, _, _ => trivial
  | f + 1, l, r => by
    unfold kas_place
    split
    · exact trivial
    · refine ⟨hp.get hn _, hp.get hn _, fun c => ?_⟩
      cases c with
      | true => exact inB_place hp k f _ _
      | false => exact inB_place hp k f _ _
theorem inB_bin : ∀ (f : Nat) (p : Array Nat) (k : Nat), AllLt n p → inB n (kas_bin f p k) fun _ => True
  | 0, _, _, _ => trivial
  | f + 1, p, k, hp => inB_bind _ (inB_place hn hp k _ _ _) fun l _ => inB_bin f _ _ (hp.perm (bubble_perm _ _ _))
theorem inB_sort : inB n (kas_sort n) fun _ => True :=
  inB_bind _ (inB_count hn n (p := List.toArray (List.range n)) fun i hi => by simpa using hi) fun r hr => by
    split
    · exact inB_bin hn _ _ _ hr
    · exact trivial
omit hn

theorem run_kas {α : Type} {cmp : Nat → Nat → (Bool → Shared → Prop) → Shared → Prop} {c : Nat → Nat → Bool} {Q : α → Shared → Prop} {s : Shared} (hc : ∀ i j C, i < n → j < n → C (c i j) s → cmp i j C s) :
    ∀ {t : KasT α} {P : α → Prop}, inB n t P → Q (runK c t) s → t.kasWp cmp Q s
  | .ret a, _, _, h => h
  | .ask i j k, _, b, h => hc i j _ b.1 b.2.1 (run_kas hc (b.2.2 _) h)
noncomputable def PairAt (h : Heap) (v : Value) (x y : Int) : Prop := ∃ a o n t u, v = .ref a ∧ h.get? a = some o ∧ o.cls = .type "tuple" ∧ o.data = .seq #[.int x t, .int y u] n

noncomputable def ents (h : Heap) (vs : List Value) : List (Addr × Obj) := vs.filterMap fun
  | .ref a => (h.get? a).map (a, ·)
  | _ => none
theorem ents_mem {h : Heap} {vs : List Value} {p : Addr × Obj} (hp : p ∈ ents h vs) : .ref p.1 ∈ vs ∧ h.get? p.1 = some p.2 := by
  obtain ⟨v, hv, e⟩ := List.mem_filterMap.mp hp
  cases v <;> simp at e
  rename_i a
  obtain ⟨o, ho, rfl⟩ := e
  exact ⟨hv, ho⟩
theorem mem_ents {h : Heap} {vs : List Value} {a : Addr} {o : Obj} (hv : .ref a ∈ vs) (ho : h.get? a = some o) : (a, o) ∈ ents h vs :=
  List.mem_filterMap.mpr ⟨.ref a, hv, by simp [ho]⟩
theorem PairAt.through {h h' : Heap} {vs : List Value} {v : Value} {x y : Int} (hv : v ∈ vs) (p : PairAt h v x y) (he : ∀ q ∈ ents h vs, h'.get? q.1 = some q.2) : PairAt h' v x y := by
  obtain ⟨a, o, n, t, u, rfl, ho, r⟩ := p
  exact ⟨a, o, n, t, u, rfl, he _ (mem_ents hv ho), r⟩

noncomputable def AllPair (h : Heap) (vs : List Value) (ds : List D) : Prop := vs.length = ds.length ∧ ∀ (i : Nat) v, vs[i]? = some v → ∃ x y, ds[i]? = some (.tup [.int x, .int y]) ∧ PairAt h v x y

theorem allPair {h : Heap} {X : List Addr} {vs : List Value} {ds : List D} (r : RelL X h vs ds) (hd : ds.all (fun d => (tupInts? d).any fun is => Nat.beq is.length 2) = true) : AllPair h vs ds := by
  refine ⟨r.length, fun i v hv => ?_⟩
  have hi : i < ds.length := by rw [← r.length]; exact (List.getElem?_eq_some_iff.mp hv).1
  have hd' := List.all_eq_true.mp hd _ (List.getElem_mem hi)
  obtain ⟨v', hv', r'⟩ := r.get (List.getElem?_eq_getElem hi)
  rw [hv] at hv'; cases hv'
  cases hx : ds[i] with
  | tup es =>
    rw [hx] at hd' r'
    simp only [tupInts?] at hd'
    cases hi2 : ints? es with
    | none => rw [hi2] at hd'; cases hd'
    | some is =>
      rw [hi2] at hd'
      have hl : is.length = 2 := Nat.eq_of_beq_eq_true hd'
      obtain ⟨x, y, rfl⟩ : ∃ x y, is = [x, y] := by
        match is, hl with
        | [x, y], _ => exact ⟨x, y, rfl⟩
      have he := ints_get hi2
      subst he
      refine ⟨x, y, by rw [List.getElem?_eq_getElem hi, hx]; rfl, ?_⟩
      obtain ⟨a, ws, rfl, ⟨o, ho, hc, n, hd⟩, rl⟩ := r'.tup_inv
      cases rl with
      | cons h1 rl =>
        cases rl with
        | cons h2 rl =>
          cases rl
          obtain ⟨t, rfl⟩ := h1.int_inv
          obtain ⟨u, rfl⟩ := h2.int_inv
          exact ⟨a, o, n, t, u, rfl, ho, hc, hd⟩
  | _ => rw [hx] at hd'; simp [tupInts?] at hd'

theorem pair_lt {prog : Program} {w : World} {A : Around} {s : Shared} {v v' : Value} {x y x' y' : Int} {C : Bool → Shared → Prop} (p : PairAt s.heap v x y) (p' : PairAt s.heap v' x' y') (h : C (ltInts [x, y] [x', y']) s) :
    wpAny (model prog w) A (keyLt' (tuples' true) v v') C (fun _ _ => False) s := by
  obtain ⟨a, o, n, t, u, rfl, ho, _, hd⟩ := p
  obtain ⟨a', o', n', t', u', rfl, ho', _, hd'⟩ := p'
  refine kat_lt ho hd ho' hd' (kat_cons (wpAny_eqBool_int ?_))
  cases e : x == x' with
  | true =>
    refine kat_yes (kat_cons (wpAny_eqBool_int ?_))
    cases e2 : y == y' with
    | true =>
      refine kat_yes (kat_nil ?_)
      simpa [ltInts, e, e2] using h
    | false =>
      refine kat_no (kat_one _ _ (PySem.P.lt_int ?_))
      show C _ _
      simpa [ltInts, e, e2] using h
  | false =>
    refine kat_no (oneLt_int ?_)
    simpa [ltInts, e] using h

theorem pair_kind {M : Model} {A : Around} {s : Shared} {vs : List Value} {ds : List D} {Q : SortKind → Shared → Prop} {E : Value → Shared → Prop} (p : AllPair s.heap vs ds) (hne : 0 < vs.length) (h : Q (tuples' true) s) : wpAny M A (keyKind' vs.toArray) Q E s := by
  have go : ∀ (vs : List Value), (∀ v ∈ vs, ∃ x y, PairAt s.heap v x y) → ∃ fs, KatTups s.heap vs fs ∧ fs.length = vs.length ∧ ∀ f ∈ fs, ∃ x t, f = .int x t := by
    intro vs
    induction vs with
    | nil => intro _; exact ⟨[], KatTups.nil, rfl, fun _ h => nomatch h⟩
    | cons v vs ih =>
      intro hv
      obtain ⟨fs, k, l, r⟩ := ih fun v hm => hv v (.tail _ hm)
      obtain ⟨x, y, a, o, n, t, u, rfl, ho, hc, hd⟩ := hv v (.head _)
      exact ⟨.int x t :: fs, KatTups.cons ho hc hd rfl k, by simp [l], fun f hf => by
        rcases List.mem_cons.mp hf with rfl | hf
        · exact ⟨_, _, rfl⟩
        · exact r f hf⟩
  obtain ⟨fs, k, l, r⟩ := go vs fun v hv => by
    obtain ⟨i, hi, e⟩ := List.getElem_of_mem hv
    obtain ⟨x, y, _, q⟩ := p.2 i v (by rw [List.getElem?_eq_getElem hi, e])
    exact ⟨x, y, q⟩
  refine kat_kind (T := .type "int") k (by omega) (fun v hv => ?_) rfl h
  obtain ⟨x, t, rfl⟩ := r v hv
  exact Looks.now
end Mine
open PySem PySem.W PyProof.Rows PySem.Calls
set_option linter.unusedVariables false
namespace Mine

section
variable {prog : Program} {w : World} {Fs : Addr → Option Obj} {mg mb : Str → Option Value} {A : Around} {X : List Addr} {s : Shared}

theorem max_ok (hh : A.handled = none) {i j : Int} {t u : Tok} : wpAny (model prog w) A (call (.builtin "max") [.int i t, .int j u]) (EP X (.int (bif decide (i < j) then j else i)) s) noE s := by
  refine max_two_ints hh fun h' tk hk => ⟨⟨h', tk, rfl, hk⟩, ?_⟩
  by_cases c : j > i
  · rw [if_pos c, decide_eq_true (show i < j from c)]; exact .int _ _
  · rw [if_neg c, decide_eq_false (show ¬ i < j from c)]; exact .int _ _
theorem sort_two {l : Addr} {vs : List Value} {ds : List D} (hl : s.heap.IsList l vs.toArray) (p : AllPair s.heap vs ds) (h2 : 2 ≤ vs.length) (h64 : vs.length < 64) {L b : Addr} {m : Str → Option Value} {o : Obj}
    (hL : s.heap.Ns L m) (ho : s.heap.get? b = some o) (hb : b ≠ L) :
    wpAny (model prog w) A (call (.builtin "sorted") [.ref l])
      (fun v s' => (∃ D c, v = .ref D ∧ b < D ∧ s'.heap.get? D = some (listOf (List.toArray ((runK (fun i j => ltInts (((ds[i]?).bind tupInts?).getD []) (((ds[j]?).bind tupInts?).getD [])) (kas_sort vs.length)).toList.map fun i => vs.getD i Value.none)) c)) ∧
        (∃ h' tk, s' = { s with heap := h', toks := tk }) ∧ s'.heap.get? b = some o) noE s := by
  have F : Fr ({} : Heap) L s.heap m := ⟨hL, fun b o e => by simp [Heap.get?] at e, Nat.zero_le _⟩
  have emp : ∀ a, ({} : Heap).get? a = none := fun a => by simp [Heap.get?]
  obtain ⟨oL, es, ep, hoL, hdL, _⟩ := id hL
  have N : News ({} : Heap) L s.heap ((b, o) :: ents s.heap vs) := fun q hq => by
    rcases List.mem_cons.mp hq with rfl | hq
    · exact ⟨ho, hb, emp _⟩
    · obtain ⟨h1, h3⟩ := ents_mem hq
      refine ⟨h3, fun e => ?_, emp _⟩
      obtain ⟨i, hi, e2⟩ := List.getElem_of_mem h1
      obtain ⟨x, y, _, a, o', n, t, u, e', ho', _, hd'⟩ := p.2 i _ (by rw [List.getElem?_eq_getElem hi, e2])
      cases e'
      rw [e, hoL] at ho'; cases ho'
      rw [hdL] at hd'; cases hd'
  refine kat_sorted F N hl h2 h64 fun D e1 h' F' N' lt => ?_
  have keep : ∀ q ∈ ents s.heap vs, h'.get? q.1 = some q.2 := fun q hq => (N' q (.tail _ (.tail _ hq))).1
  have p' : AllPair h' vs ds := ⟨p.1, fun i v hv => let ⟨x, y, e, q⟩ := p.2 i v hv; ⟨x, y, e, q.through (List.mem_of_getElem? hv) keep⟩⟩
  refine pair_kind (s := { s with heap := h' }) p' (by omega) ?_
  refine run_kas (n := vs.length) (c := fun i j => ltInts (((ds[i]?).bind tupInts?).getD []) (((ds[j]?).bind tupInts?).getD [])) (fun i j C hi hj hC => ?_) (inB_sort (by omega)) ?_
  · obtain ⟨x, y, e, q⟩ := p'.2 i _ (List.getElem?_eq_getElem hi)
    obtain ⟨x', y', e', q'⟩ := p'.2 j _ (List.getElem?_eq_getElem hj)
    unfold kas_ask
    rw [List.getD_eq_getElem?_getD, List.getD_eq_getElem?_getD, List.getElem?_eq_getElem hi, List.getElem?_eq_getElem hj]
    refine pair_lt (s := { s with heap := h' }) q q' ?_
    rw [e, e'] at hC
    exact hC
  · refine KasFin.intro F' N' (.head fun p hp => Nat.ne_of_lt (lt p hp)) fun h'' c F'' N'' => ?_
    refine ⟨⟨D, c, rfl, lt (b, o) (.head _), (N'' _ (.head _)).1⟩, ⟨h'', s.toks, rfl⟩, (N'' (b, o) (.tail _ (.head _))).1⟩

theorem kas_zip2 (xs : Array Value) : (xs.zip xs).map (·.2) = xs := by
  apply Array.ext
  · simp
  · intro i h1 h2
    simp
theorem listOf_isList {h : Heap} {D : Addr} {out : List Value} {c : Nat} (e : h.get? D = some (listOf (List.toArray out) c)) : h.IsList D out.toArray := ⟨_, e, rfl, _, rfl⟩

theorem sort_many {l : Addr} {vs : List Value} {ds : List D} (G : GF Fs mg mb s.heap) (hX : ∀ a ∈ X, ∃ o, s.heap.get? a = some o) (hl : s.heap.IsList l vs.toArray) (r : RelL X s.heap vs ds) (p : AllPair s.heap vs ds) (h2 : 2 ≤ vs.length) (h64 : vs.length < 64) :
    wpAny (model prog w) A (call (.builtin "sorted") [.ref l])
      (EP X (.lst ((runK (fun i j => ltInts (((ds[i]?).bind tupInts?).getD []) (((ds[j]?).bind tupInts?).getD [])) (kas_sort ds.length)).toList.map fun i => ds.getD i .none)) s) noE s := by
  obtain ⟨oL, _, _, hoL, _⟩ := id G.g
  have : Nonempty { q : Addr × Obj // s.heap.get? q.1 = some q.2 } := ⟨⟨(mainGlobals, oL), hoL⟩⟩
  have all := wpAny_all (ι := { q : Addr × Obj // s.heap.get? q.1 = some q.2 }) (M := model prog w) (A := A) (t := call (.builtin "sorted") [.ref l]) (s := s)
    (Q := fun q v s' => (∃ D c, v = .ref D ∧ q.1.1 < D ∧ s'.heap.get? D = some (listOf (List.toArray ((runK (fun i j => ltInts (((ds[i]?).bind tupInts?).getD []) (((ds[j]?).bind tupInts?).getD [])) (kas_sort vs.length)).toList.map fun i => vs.getD i Value.none)) c)) ∧
        (∃ h' tk, s' = { s with heap := h', toks := tk }) ∧ s'.heap.get? q.1.1 = some q.1.2) fun q => by
      by_cases e : q.1.1 = mainGlobals
      · exact sort_two hl p h2 h64 G.b q.2 (by rw [e]; decide)
      · exact sort_two hl p h2 h64 G.g q.2 e
  refine mono all fun v s' hq => ?_
  obtain ⟨⟨D, c, rfl, _, hD⟩, ⟨h', tk, rfl⟩, _⟩ := hq ⟨(mainGlobals, oL), hoL⟩
  have k : Kp s { s with heap := h', toks := tk } := ⟨h', tk, rfl, fun b o e => (hq ⟨(b, o), e⟩).2.2⟩
  refine ⟨k, .lst (fun hm => ?_) (listOf_isList hD) ?_⟩
  · obtain ⟨o, ho⟩ := hX _ hm
    obtain ⟨⟨D', _, e, lt, _⟩, _⟩ := hq ⟨(D, o), ho⟩
    cases e
    exact Nat.lt_irrefl _ lt
  · rw [r.length]
    have r' := r.ext k.ext
    generalize (runK (fun i j => ltInts (((ds[i]?).bind tupInts?).getD []) (((ds[j]?).bind tupInts?).getD [])) (kas_sort ds.length)).toList = ps
    induction ps with
    | nil => exact .nil
    | cons i ps ih =>
      refine .cons ?_ ih
      show Rel _ _ (vs.getD i Value.none) (ds.getD i .none)
      rw [List.getD_eq_getElem?_getD, List.getD_eq_getElem?_getD]
      cases e : ds[i]? with
      | none =>
        have : vs[i]? = none := List.getElem?_eq_none (by rw [r.length]; exact List.getElem?_eq_none_iff.mp e)
        rw [this]; exact .none
      | some d =>
        obtain ⟨v, hv, rv⟩ := r'.get e
        rw [hv]; exact rv

theorem few_tree {a : Addr} {vs : List Value} {n : Nat} {P : PySem.Fin → Shared → Prop} {E : Value → Shared → Prop} (ho : s.heap.get? a = some (seqObj "list" vs.toArray n)) (h2 : vs.length < 2)
    (h : P (.done (.ret .none)) { s with heap := sortedHeap s.heap a vs vs.toArray }) : wpAny (model prog w) A (Builtin.«list.sort» ⟨[.ref a], []⟩) P E s := by
  rw [list_sort_plain]
  have ha : a < s.heap.objs.size := Heap.lt_size ho
  have hsz : vs.toArray.size = vs.length := by simp
  refine wpAny_bind (listItems_at ho rfl ?_)
  refine wpAny_bind (listUpdate_at ho rfl ?_ (by rw [hsz, sizeLine_eq]; omega) (Nat.zero_le _))
  obtain ⟨e1, ho1⟩ : ∃ e1, (s.heap.update a (Obj.mapSeq fun _ => #[])).get? a = some (seqObj "list" #[] e1) := ⟨_, get?_update_seq ho (fun _ => #[])⟩
  refine wpAny_bind (seqEpoch_at ho1 rfl ?_)
  refine wpAny_bind (wpAny_newTuple ?_ (by show vs.length ≤ _; rw [sizeLine_eq]; omega))
  refine wpAny_bind (wpAny_newList ?_ (Nat.zero_le _))
  refine wpAny_holding ?_
  have ho6 : (((s.heap.update a (Obj.mapSeq fun _ => #[])).push (seqObj "tuple" vs.toArray 0)).push (seqObj "list" #[] 0)).get? a = some (seqObj "list" #[] e1) := by
    rw [Heap.get?_push_ne _ _ _ (by rw [size_push', Heap.size_update]; exact Nat.ne_of_lt (Nat.lt_succ_of_lt ha)), Heap.get?_push_ne _ _ _ (by rw [Heap.size_update]; exact Nat.ne_of_lt ha)]
    exact ho1
  show wpAny (model prog w) A _ P E { s with heap := ((s.heap.update a (Obj.mapSeq fun _ => #[])).push (seqObj "tuple" vs.toArray 0)).push (seqObj "list" #[] 0) }
  dsimp only
  rw [if_pos (by omega), if_pos (by omega)]
  refine wpAny_bind (wpAny_pure ?_)
  rw [StateT.run_pure]
  refine wpAny_bind (wpAny_pure ?_)
  dsimp only
  refine wpAny_bind (seqEpoch_at ho6 rfl ?_)
  have hm : (arrOf (SortSt.mk' general' (vs.toArray.zip vs.toArray) #[] 7 none)).map (·.2) = vs.toArray := by
    show (vs.toArray.zip vs.toArray).map (·.2) = _
    exact kas_zip2 vs.toArray
  rw [hm]
  refine wpAny_bind (listUpdate_at ho6 rfl ?_ (hsz2 := by rw [hsz, sizeLine_eq]; omega))
  simp only [bne_self_eq_false, Bool.false_eq_true, if_false]
  exact wpAny_pure h

theorem sort_few {l : Addr} {vs : List Value} {ds : List D} (hX : ∀ a ∈ X, ∃ o, s.heap.get? a = some o) (hl : s.heap.IsList l vs.toArray) (r : RelL X s.heap vs ds) (h2 : vs.length < 2) :
    wpAny (model prog w) A (call (.builtin "sorted") [.ref l]) (EP X (.lst ds) s) noE s := by
  have hx : ∃ ns, IntsAre vs ns ∨ True := ⟨[], .inr trivial⟩
  refine Calls.call_function_entry kind_sorted plain_sorted entry_sorted (args_sorted1 _) ?_
  unfold Builtin.«sorted»
  refine wpAny_bind (m := checkCount "sorted" 1 1 _) (wpAny_pure ?_)
  refine wpAny_bind (collect_list hl ?_ (by rw [sizeLine_eq]; omega))
  refine wpAny_bind (wpAny_newList ?_ (by rw [sizeLine_eq]; omega))
  have hsz : ((s.heap.push (seqObj "list" #[] 0)).update s.heap.objs.size (Obj.mapSeq (· ++ vs.toArray))).objs.size = s.heap.objs.size + 1 := by
    rw [Heap.size_update, size_push']
  have hoL : (((s.heap.push (seqObj "list" #[] 0)).update s.heap.objs.size (Obj.mapSeq (· ++ vs.toArray))).push (seqObj "list" vs.toArray 0)).get? (s.heap.objs.size + 1) = some (seqObj "list" vs.toArray 0) := by
    rw [← hsz]; exact Heap.get?_push_size _ rfl
  show wpAny _ _ _ _ _ { s with heap := ((s.heap.push (seqObj "list" #[] 0)).update s.heap.objs.size (Obj.mapSeq (· ++ vs.toArray))).push (seqObj "list" vs.toArray 0) }
  rw [hsz]
  have done : EP X (.lst ds) s (.ref (s.heap.objs.size + 1)) { s with heap := sortedAll s.heap vs vs.toArray } := by
    have ext : Ext s.heap (sortedAll s.heap vs vs.toArray) := fun b o e => sortedAll_old e
    obtain ⟨e, he⟩ := sortedAll_at s.heap vs vs.toArray
    refine ⟨⟨_, s.toks, rfl, ext⟩, .lst (fun hm => ?_) ⟨_, he, rfl, _, rfl⟩ (r.ext ext)⟩
    obtain ⟨o, ho⟩ := hX _ hm
    exact absurd (Heap.lt_size ho) (Nat.not_lt.mpr (Nat.le_succ _))
  have hlt : s.heap.objs.size + 1 < (((s.heap.push (seqObj "list" #[] 0)).update s.heap.objs.size (Obj.mapSeq (· ++ vs.toArray))).push (seqObj "list" vs.toArray 0)).objs.size := Heap.lt_size hoL
  refine wpAny_bind (wpAny_holding (wpAny_call_entry slot_list_sort ⟨_, hoL, rfl⟩ entry_list_sort
    (few_tree hoL h2 ⟨_, rfl, wpAny_pure ⟨_, rfl, done⟩⟩) (args_list_sort _)))

theorem sort_ok {a d : D} {v : Value} (h : sortD a = some d) (G : GF Fs mg mb s.heap) (hX : ∀ a ∈ X, ∃ o, s.heap.get? a = some o) (r : Rel X s.heap v a) :
    wpAny (model prog w) A (call (.builtin "sorted") [v]) (EP X d s) noE s := by
  unfold sortD at h
  split at h
  · rename_i ds
    obtain ⟨l, vs, rfl, _, hl, rl⟩ := r.lst_inv
    have len := rl.length
    cases h64 : Nat.ble 64 ds.length <;> rw [h64] at h
    · cases hp : ds.all (fun d => (tupInts? d).any fun is => Nat.beq is.length 2) <;> rw [hp] at h
      · cases h
      · have h64' : ds.length < 64 := Nat.not_le.mp fun c => by rw [Nat.ble_eq_true_of_le c] at h64; cases h64
        cases h2 : Nat.ble 2 ds.length <;> rw [h2] at h <;> cases h
        · refine sort_few hX hl rl (Nat.not_le.mp fun c => by rw [len] at c; rw [Nat.ble_eq_true_of_le c] at h2; cases h2)
        · have := Nat.le_of_ble_eq_true h2
          exact sort_many G hX hl rl (allPair rl hp) (by omega) (by omega)
    · cases h
  · cases h
end
end Mine
open PySem PySem.W PyProof.Rows PySem.Calls
set_option linter.unusedVariables false
namespace Mine

theorem look_put {n x : Nat} {d : D} : ∀ {ρ : List (Nat × D)}, look n (put x d ρ) = bif Nat.beq n x then some d else look n ρ
  | [] => by simp [put, look]
  | (k, c) :: r => by
    simp only [put]
    cases hx : Nat.beq x k with
    | true =>
      have e : x = k := Nat.eq_of_beq_eq_true hx
      subst e
      simp only [cond_true, look]
      cases Nat.beq n x <;> rfl
    | false =>
      simp only [cond_false, look, look_put]
      cases hn : Nat.beq n k with
      | true =>
        have e : n = k := Nat.eq_of_beq_eq_true hn
        subst e
        have : Nat.beq n x = false := by
          cases h : Nat.beq n x with
          | false => rfl
          | true => have := Nat.eq_of_beq_eq_true h; subst this; rw [hx] at hn; cases hn
        rw [this]; rfl
      | false => rfl
structure FE (sc : Scope) (env : Env) : Prop where
  hsc : env.scope = sc
  ok : EnvOK env
  cell : ∀ g, sc.names.lookup g = some NameKind.cell → ∃ c, env.cells.lookup g = some c
  dist : ∀ x y c, env.cells.lookup x = some c → env.cells.lookup y = some c → x = y
theorem FE.kindOf {sc : Scope} {env : Env} (F : FE sc env) (x : Str) : env.kindOf x = sc.names.lookup x := by rw [← F.hsc]; rfl
theorem FE.scok {sc : Scope} {env : Env} (F : FE sc env) : ScOK sc env where
  glob := fun g hg => (F.kindOf g).trans hg
  cell := fun g hg => ⟨(F.kindOf g).trans hg, F.cell g hg⟩
structure SInv (Fs : Addr → Option Obj) (mg mb : Str → Option Value) (X : List Addr) (av : Nat) (env : Env) (B : Heap) (σ : St) (l? : Option Addr) (h : Heap) : Prop where
  gf : GF Fs mg mb B
  ext : Ext B h
  xs : ∀ a ∈ X, ∃ o, B.get? a = some o
  fr : B.get? env.locals = none
  cl : ∀ x c, env.cells.lookup x = some c → B.get? c = none ∧ ∃ v, h.IsCell c v
  ac : σ.acc = none → l? = none
  noav : ∀ d, look av σ.env ≠ some d
  lf : ∀ l, l? = some l → B.get? l = none
  vars : ∃ m, h.Ns env.locals m ∧ (∀ n d, look n σ.env = some d → VarOK env m h (l?.toList ++ X) n d) ∧
    ∀ ds, σ.acc = some ds → env.kindOf (nm av) = some .local ∧ ∃ l vs, l? = some l ∧ m (nm av) = some (.ref l) ∧ h.PlainList l vs.toArray ∧ RelL (l?.toList ++ X) h vs ds

noncomputable def Chg (env : Env) (l? : Option Addr) (s s' : Shared) : Prop :=
  ∃ h' tk, s' = { s with heap := h', toks := tk } ∧ (∀ b o, s.heap.get? b = some o → b ≠ env.locals → (∀ x, env.cells.lookup x ≠ some b) → l? ≠ some b → h'.get? b = some o) ∧ ∀ b, h'.get? b = none → s.heap.get? b = none
noncomputable def Grow (l? l' : Option Addr) (s : Shared) : Prop := ∀ l, l' = some l → l? = some l ∨ s.heap.get? l = none
noncomputable def FlOK (X : List Addr) (fl : Fl) (f : Flow) (h : Heap) : Prop := match fl with
  | .next => f = .next
  | .ret d => ∃ v, f = .ret v ∧ Rel X h v d

section
variable {prog : Program} {w : World} {Fs : Addr → Option Obj} {mg mb : Str → Option Value} {A : Around} {X : List Addr} {av : Nat} {env : Env} {σ : St} {s : Shared} {sc : Scope} {v : Ev} {n : Nat} {B h h' : Heap} {l? : Option Addr}

theorem none_back {b : Addr} (hk : Ext h h') (e : h'.get? b = none) : h.get? b = none := by
  cases q : h.get? b with
  | none => rfl
  | some o => rw [hk b o q] at e; cases e
theorem none_but {a b : Addr} (hs : Heap.SameBut a h h') (ha : ∃ o, h'.get? a = some o) (e : h'.get? b = none) : h.get? b = none := by
  by_cases q : b = a
  · subst q; obtain ⟨o, ho⟩ := ha; rw [ho] at e; cases e
  · rw [← hs.2 b q]; exact e
theorem Chg.none {s' : Shared} (c : Chg env l? s s') {b : Addr} (e : s'.heap.get? b = .none) : s.heap.get? b = .none := by
  obtain ⟨h', tk, rfl, _, hn⟩ := c; exact hn b e
theorem Chg.kp {s' : Shared} (k : Kp s s') : Chg env l? s s' := by
  obtain ⟨h', tk, rfl, hk⟩ := k
  exact ⟨h', tk, rfl, fun b o e _ _ _ => hk b o e, fun b e => none_back hk e⟩
theorem Chg.trans {s' s'' : Shared} {l' : Option Addr} (c : Chg env l? s s') (g : Grow l? l' s) (c' : Chg env l' s' s'') : Chg env l? s s'' := by
  obtain ⟨h', tk, rfl, hk, hn⟩ := c
  obtain ⟨h'', tk', rfl, hk', hn'⟩ := c'
  refine ⟨h'', tk', rfl, fun b o e h1 h2 h3 => hk' b o (hk b o e h1 h2 h3) h1 h2 fun e' => ?_, fun b e => hn b (hn' b e)⟩
  rcases g b e' with q | q
  · exact h3 q
  · rw [q] at e; cases e
theorem Grow.trans {s' : Shared} {l' l'' : Option Addr} (g : Grow l? l' s) (hk : ∀ b, s'.heap.get? b = none → s.heap.get? b = none) (g' : Grow l' l'' s') : Grow l? l'' s := fun l e => by
  rcases g' l e with q | q
  · exact g l q
  · exact .inr (hk l q)
theorem Grow.same : Grow l? l? s := fun _ e => .inl e

theorem SInv.inv (I : SInv Fs mg mb X av env B σ l? h) (ok : EnvOK env) : Inv Fs mg mb (l?.toList ++ X) av env σ h where
  ok := ok
  gf := I.gf.ext I.ext
  xs := fun a ha => by
    rcases List.mem_append.mp ha with ha | ha
    · obtain ⟨m, hn, hv, hacc⟩ := I.vars
      have hl : l? = some a := by cases l? <;> simp at ha; rw [ha]
      cases hσ : σ.acc with
      | none => rw [I.ac hσ] at hl; cases hl
      | some ds =>
        obtain ⟨_, l, vs, e, _, ⟨k, hp⟩, _⟩ := hacc ds hσ
        rw [hl] at e; cases e
        exact ⟨_, hp⟩
    · obtain ⟨o, ho⟩ := I.xs a ha; exact ⟨o, I.ext _ _ ho⟩
  vars := by
    obtain ⟨m, hn, hv, hacc⟩ := I.vars
    refine ⟨m, hn, hv, fun ds e => ?_⟩
    obtain ⟨hk, l, vs, e', hm, hp, r⟩ := hacc ds e
    exact ⟨hk, l, vs, hm, by rw [e']; simp, hp.isList, r⟩

theorem SInv.kp (I : SInv Fs mg mb X av env B σ l? h) (x : Ext h h') : SInv Fs mg mb X av env B σ l? h' where
  gf := I.gf
  ext := I.ext.trans x
  xs := I.xs
  fr := I.fr
  cl := fun y c e => let ⟨a, v, b⟩ := I.cl y c e; ⟨a, v, b.keeps x⟩
  ac := I.ac
  noav := I.noav
  lf := I.lf
  vars := by
    obtain ⟨m, hn, hv, hacc⟩ := I.vars
    refine ⟨m, hn.keeps x, fun n d e => (hv n d e).ext x, fun ds e => ?_⟩
    obtain ⟨hk, l, vs, e', hm, hp, r⟩ := hacc ds e
    exact ⟨hk, l, vs, e', hm, hp.at fun o ho => x _ _ ho, r.ext x⟩

theorem VarOK.move {m m' : Str → Option Value} {k : Nat} {d : D} (hv : VarOK env m h X k d) (hm : m' (nm k) = m (nm k)) (st : Stay X h h') (hc : ∀ c v, env.cells.lookup (nm k) = some c → h.IsCell c v → h'.IsCell c v) : VarOK env m' h' X k d := by
  rcases hv with ⟨a, v, b, r⟩ | ⟨a, c, v, b, ic, r⟩
  · exact .inl ⟨a, v, by rw [hm, b], r.stay st fun _ h => .inl h⟩
  · exact .inr ⟨a, c, v, b, hc _ _ b ic, r.stay st fun _ h => .inl h⟩

theorem VarOK.less {m : Str → Option Value} {k : Nat} {d : D} {l? : Option Addr} (hv : VarOK env m h (l?.toList ++ X) k d) : VarOK env m h ((none : Option Addr).toList ++ X) k d := by
  have sub : ∀ a, a ∈ (none : Option Addr).toList ++ X → a ∈ l?.toList ++ X ∨ h.get? a = none := fun a ha => .inl (List.mem_append_right _ (by simpa using ha))
  rcases hv with ⟨a, v, b, r⟩ | ⟨a, c, v, b, ic, r⟩
  · exact .inl ⟨a, v, b, r.sub sub⟩
  · exact .inr ⟨a, c, v, b, ic, r.sub sub⟩
theorem Odd.cell {Xs : List Addr} {b : Addr} {u : Option Value} (hn : h.IsCell b u) : Odd Xs h b := by
  intro o ho its n hd
  obtain ⟨o', ho', hd'⟩ := hn
  rw [ho] at ho'; cases ho'; rw [hd] at hd'; cases hd'
theorem Stay.but {Xs : List Addr} {a : Addr} (hs : Heap.SameBut a h h') (hO : Odd Xs h a) : Stay Xs h h' :=
  stay_of (B := fun b => b = a) (fun b o hb e => hs.extBut b o hb e) fun b hb => by subst hb; exact hO

theorem noav_put {x : Nat} {d : D} (hx : x ≠ av) (h : ∀ d, look av σ.env ≠ some d) : ∀ e, look av (σ.put x d).env ≠ some e := fun e => by
  have : Nat.beq av x = false := by
    cases q : Nat.beq av x with
    | false => rfl
    | true => exact absurd (Nat.eq_of_beq_eq_true q).symm hx
  simp only [St.put, look_put, this]
  exact h e
theorem store_ok {E : Value → Shared → Prop} {x : Nat} {y : Str} {d : D} {vv : Value} (F : FE sc env) (I : SInv Fs mg mb X av env B σ l? s.heap) (hy : y = nm x) (hx : x ≠ av) (hk : sc.names.lookup y = some .local ∨ sc.names.lookup y = some .cell) (r : Rel (l?.toList ++ X) s.heap vv d) :
    wpAny (model prog w) A (storeName env y vv) (fun _ s' => SInv Fs mg mb X av env B (σ.put x d) l? s'.heap ∧ Chg env l? s s' ∧ (sc.names.lookup y = some .local → Heap.SameBut env.locals s.heap s'.heap)) E s := by
  obtain ⟨m, hn, hv, hacc⟩ := I.vars
  rcases hk with hk | hk
  · have hk' := (F.kindOf y).trans hk
    refine wpAny_storeName_local hk' hn (fun h' hn' hs => ?_) (by rw [F.ok.kind]; rfl)
    have st : Stay (l?.toList ++ X) s.heap h' := Stay.but hs (Odd.ns hn)
    have hcl : ∀ x c v, env.cells.lookup x = some c → s.heap.IsCell c v → h'.IsCell c v := fun x c v e ic => ic.sameBut hs fun q => by
      subst q
      obtain ⟨o, es, ep, ho, hd, _⟩ := hn
      obtain ⟨o', ho', hd'⟩ := ic
      rw [ho] at ho'; cases ho'; rw [hd] at hd'; cases hd'
    refine ⟨⟨I.gf, fun b o e => hs.extBut b o (fun q => by rw [q, I.fr] at e; cases e) (I.ext b o e), I.xs, I.fr, fun x c e => ?_, I.ac, noav_put hx I.noav, I.lf, _, hn', fun k e hke => ?_, fun ds e => ?_⟩, ⟨h', _, rfl, fun b o e h1 _ _ => hs.extBut b o h1 e, fun b e => none_but hs (let ⟨o, _, _, ho, _⟩ := hn'; ⟨o, ho⟩) e⟩, fun _ => hs⟩
    · obtain ⟨a, u, b⟩ := I.cl x c e
      exact ⟨a, u, hcl x c u e b⟩
    · simp only [St.put, look_put] at hke
      cases hb : Nat.beq k x with
      | true =>
        rw [hb] at hke
        cases hke
        have := Nat.eq_of_beq_eq_true hb
        subst this
        exact .inl ⟨hy ▸ hk', vv, by simp [hy], r.stay st fun _ h => .inl h⟩
      | false =>
        rw [hb] at hke
        have hne : k ≠ x := fun e => by subst e; simp at hb
        refine (hv k e hke).move ?_ st (hcl _)
        have : ¬ nm k = y := by rw [hy]; exact fun e => hne (nm_inj e)
        simp [this]
    · obtain ⟨hka, l, vs, e', hm, hp, r'⟩ := hacc ds e
      refine ⟨hka, l, vs, e', ?_, hp.extBut hs.extBut (fun q => NsList (q ▸ hn) hp.isList), r'.stay st fun _ h => .inl h⟩
      have : ¬ nm av = y := by rw [hy]; exact fun e => hx (nm_inj e).symm
      simp [this, hm]
  · obtain ⟨c, hc⟩ := F.cell y hk
    obtain ⟨hB, u, ic⟩ := I.cl y c hc
    refine wpAny_storeName_cell F.ok.kind ((F.kindOf y).trans hk) hc ic fun h' ic' hs => ?_
    have hLc : env.locals ≠ c := fun q => by
      obtain ⟨o, es, ep, ho, hd, _⟩ := hn
      obtain ⟨o', ho', hd'⟩ := ic
      rw [← q, ho] at ho'; cases ho'; rw [hd] at hd'; cases hd'
    have st : Stay (l?.toList ++ X) s.heap h' := Stay.but hs (Odd.cell ic)
    refine ⟨⟨I.gf, fun b o e => hs.extBut b o (fun q => by rw [q, hB] at e; cases e) (I.ext b o e), I.xs, I.fr, fun z c' e => ?_, I.ac, noav_put hx I.noav, I.lf, m, hn.sameBut hs hLc, fun k e hke => ?_, fun ds e => ?_⟩, ⟨h', s.toks, rfl, fun b o e _ h2 _ => hs.extBut b o (fun q => h2 y (q ▸ hc)) e, fun b e => none_but hs (let ⟨o, ho, _⟩ := ic'; ⟨o, ho⟩) e⟩, fun q => by rw [hk] at q; cases q⟩
    · obtain ⟨a, u', b⟩ := I.cl z c' e
      by_cases q : c' = c
      · subst q; exact ⟨a, _, ic'⟩
      · exact ⟨a, u', b.sameBut hs q⟩
    · simp only [St.put, look_put] at hke
      cases hb : Nat.beq k x with
      | true =>
        rw [hb] at hke
        cases hke
        have := Nat.eq_of_beq_eq_true hb
        subst this
        exact .inr ⟨.inl (hy ▸ (F.kindOf y).trans hk), c, vv, hy ▸ hc, ic', r.stay st fun _ h => .inl h⟩
      | false =>
        rw [hb] at hke
        have hne : k ≠ x := fun e => by subst e; simp at hb
        refine (hv k e hke).move rfl st fun c' v' hc' ic' => ic'.sameBut hs fun q => ?_
        subst q
        have := F.dist _ _ _ hc' hc
        rw [hy] at this
        exact hne (nm_inj this)
    · obtain ⟨hka, l, vs, e', hm, hp, r'⟩ := hacc ds e
      refine ⟨hka, l, vs, e', hm, hp.extBut hs.extBut (fun q => ?_), r'.stay st fun _ h => .inl h⟩
      obtain ⟨o', ho', hd'⟩ := ic
      obtain ⟨k, hk'⟩ := hp
      rw [q, ho'] at hk'; cases hk'; cases hd'
theorem SInv.other {a : Addr} (I : SInv Fs mg mb X av env B σ l? h) (hs : Heap.ExtBut a h h') (hB : B.get? a = none) (hL : a ≠ env.locals) (hC : ∀ x, env.cells.lookup x ≠ some a) (hl : l? ≠ some a) (hO : Odd (l?.toList ++ X) h a) : SInv Fs mg mb X av env B σ l? h' := by
  obtain ⟨m, hn, hv, hacc⟩ := I.vars
  have st : Stay (l?.toList ++ X) h h' := stay_of (B := fun b => b = a) (fun b o hb e => hs b o hb e) fun b hb => by subst hb; exact hO
  have hcl : ∀ x c v, env.cells.lookup x = some c → h.IsCell c v → h'.IsCell c v := fun x c v e ic => let ⟨o, ho, hd⟩ := ic; ⟨o, hs _ _ (fun q => hC x (q ▸ e)) ho, hd⟩
  refine ⟨I.gf, fun b o e => hs b o (fun q => by rw [q, hB] at e; cases e) (I.ext b o e), I.xs, I.fr, fun x c e => ?_, I.ac, I.noav, I.lf, m, hn.at' fun o ho => hs _ _ (Ne.symm hL) ho, fun k e hke => (hv k e hke).move rfl st (hcl _), fun ds e => ?_⟩
  · obtain ⟨a, u, b⟩ := I.cl x c e
    exact ⟨a, u, hcl x c u e b⟩
  · obtain ⟨hka, l, vs, e', hm, hp, r'⟩ := hacc ds e
    exact ⟨hka, l, vs, e', hm, hp.extBut hs (fun q => hl (q ▸ e')), r'.stay st fun _ h => .inl h⟩
theorem SInv.drop (I : SInv Fs mg mb X av env B σ l? h) : SInv Fs mg mb X av env B ⟨σ.env, none⟩ none h := by
  obtain ⟨m, hn, hv, hacc⟩ := I.vars
  refine ⟨I.gf, I.ext, I.xs, I.fr, I.cl, fun _ => rfl, I.noav, fun _ e => (nomatch e), m, hn, fun k e hke => ?_, fun ds e => (nomatch e)⟩
  exact (hv k e hke).move rfl ((Ext.refl h).stay _) (fun _ _ _ ic => ic) |>.less
end
end Mine
open PySem PySem.W PyProof.Rows PySem.Calls
set_option linter.unusedVariables false
namespace Mine
noncomputable def SP (Fs : Addr → Option Obj) (mg mb : Str → Option Value) (X : List Addr) (av : Nat) (env : Env) (B : Heap) (σ' : St) (fl : Fl) (l? : Option Addr) (s : Shared) (f : Flow) (s' : Shared) : Prop :=
  ∃ l', SInv Fs mg mb X av env B σ' l' s'.heap ∧ Chg env l? s s' ∧ Grow l? l' s ∧ FlOK X fl f s'.heap

structure SndS (prog : Program) (w : World) (Fs : Addr → Option Obj) (mg mb : Str → Option Value) (n : Nat) (v : Ev) : Prop where
  ss : ∀ {A : Around} {X : List Addr} {av : Nat} {env : Env} {B : Heap} {σ σ' : St} {fl : Fl} {ss : List S} {xs : List Stmt} {s : Shared} {sc : Scope} {l? : Option Addr}, AOK n A → SimSs av sc ss xs → FE sc env → v.ss σ ss = some (σ', fl) →
    SInv Fs mg mb X av env B σ l? s.heap → wpAny (model prog w) A (execs xs env) (SP Fs mg mb X av env B σ' fl l? s) noE s
noncomputable def CompU (prog : Program) (w : World) (Fs : Addr → Option Obj) (mg mb : Str → Option Value) (n : Nat) (v : Ev) : Prop :=
  ∀ {A : Around} {X : List Addr} {av : Nat} {env : Env} {σ : St} {s : Shared} {sc : Scope} {elt : E} {x : Nat} {it : I} {fr : List Nat} {t : Option T} {ex ix : Expr} {y : Str} {ifs : List Expr} {sc' : Scope} {px p q : Pos} {d : D} {u : Value → Sem Unit} {Q : Value → Shared → Prop},
    AOK n A → SimE av sc (.comp elt x it fr t) (.ListComp ex [⟨.Name y px, ix, ifs, 0⟩] sc' p) → ScOK sc env → v.e σ (.comp elt x it fr t) = some d → Inv Fs mg mb X av env σ s.heap →
    (∀ Dl C s', s.heap.get? C = none → C ≠ Dl → (∃ m, s'.heap.Ns C m) → Kp s s' → Rel X s'.heap (.ref Dl) d →
      wpAny (model prog w) A (u (.ref Dl)) (fun _ s'' => ∃ m, s''.heap.Ns C m ∧ ∀ h', Heap.SameBut C s''.heap h' → Q .none { s'' with heap := h' }) noE s') →
    wpAny (model prog w) A (comprehension (.ListComp ex [⟨.Name y px, ix, ifs, 0⟩] sc' p) sc' env q (newList []) false (eval ix env) (some u)) Q noE s

noncomputable def Insort (prog : Program) (w : World) (Fs : Addr → Option Obj) (mg mb : Str → Option Value) : Prop :=
  ∀ {A : Around} {s : Shared} {l : Addr} {vs : List Value} {is : List Int} {x : Int} {t : Tok}, AOK 1 A → GF Fs mg mb s.heap → s.heap.PlainList l vs.toArray → IntsAre vs is → is.length ≤ lim →
    wpAny (model prog w) A (call (.ref (fadr 13)) [.ref l, .int x t]) (fun v s' => v = .none ∧ ∃ h' tk, s' = { s with heap := h', toks := tk } ∧
      h'.PlainList l (vs.take (bisR is x (is.length + 1) 0 is.length) ++ .int x t :: vs.drop (bisR is x (is.length + 1) 0 is.length)).toArray ∧ ∀ b o, b ≠ l → s.heap.get? b = some o → h'.get? b = some o) noE s

section
variable {prog : Program} {w : World} {Fs : Addr → Option Obj} {mg mb : Str → Option Value} {A : Around} {X : List Addr} {av : Nat} {env : Env} {σ σ' : St} {s : Shared} {sc : Scope} {v : Ev} {n : Nat} {B h h' : Heap} {l? : Option Addr} {fl : Fl}

theorem compU_succ (L : Snd prog w Fs mg mb n v) : CompU prog w Fs mg mb n ⟨stepE v, fun _ _ => none, fun _ _ => none, fun _ _ => none⟩ := by
  intro A X av env σ s sc elt x it fr t ex ix y ifs sc' px p q d u Q a hs S h J K
  cases hs with
  | comp hi CS hy he ht hf =>
    have h : stepE v σ (.comp elt x it fr t) = some d := h
    simp only [stepE] at h
    split at h
    · rename_i ds hds
      split at h
      · rename_i ys hys
        cases hc : okLen ys.length <;> rw [hc] at h <;> cases h
        refine comp_main L a hi CS hy he ht hf S hds hys hc J (some u) fun Dl C s' ls hD hC hCD hn k il rl => ?_
        refine K Dl C s' hC hCD hn k (.lst (fun hm => ?_) il rl)
        obtain ⟨o, ho⟩ := J.xs _ hm
        rw [hD] at ho; cases ho
      · cases h
    · cases h

theorem Flow_mono {M : Model} {t : Sem Flow} {Q Q' : Flow → Shared → Prop} (h : wpAny M A t Q noE s) (hQ : ∀ a s, Q a s → Q' a s) : wpAny M A t Q' noE s := wpAny_mono h hQ fun _ _ e => e

theorem noSwap {y : Str} {px p : Pos} {x : Expr} (F : FE sc env) (h : sc.names.lookup y = some .local ∧ noComp x = true ∨ sc.names.lookup y = some .cell) : swapsWith x (some (.Name y px)) p.line env = pure false := by
  rcases h with ⟨_, h⟩ | h
  · cases x <;> first | rfl | (simp [noComp] at h)
  · have hk := (F.kindOf y).trans h
    unfold swapsWith
    cases x <;> first | rfl | (simp only [hk, show (some NameKind.cell == some NameKind.local) = false from by decide]; simp)

theorem asg_ok (L : Snd prog w Fs mg mb n v) (a : AOK n A) {e : E} {x : Nat} {y : Str} {px p : Pos} {xv : Expr} {d : D} (F : FE sc env) (hy : y = nm x) (hx : x ≠ av) (hk : sc.names.lookup y = some .local ∧ noComp xv = true ∨ sc.names.lookup y = some .cell) (se : SimE av sc e xv)
    (h : v.e σ e = some d) (I : SInv Fs mg mb X av env B σ l? s.heap) : wpAny (model prog w) A (exec (.Assign [.Name y px] xv p) env) (SP Fs mg mb X av env B (σ.put x d) .next l? s) noE s := by
  refine wpAny_Assign_Name (mono (L.e a se F.scok h (I.inv F.ok)) fun vv s₁ h₁ => ?_) (noSwap F hk)
  refine wpAny_mono (store_ok F (I.kp h₁.1.ext) hy hx (hk.imp (·.1) id) h₁.2) (fun _ s₂ h₂ => ?_) fun _ _ e => e
  exact ⟨l?, h₂.1, (Chg.kp h₁.1).trans Grow.same h₂.2.1, Grow.same, rfl⟩

theorem asgC_ok (U : CompU prog w Fs mg mb n v) (a : AOK n A) {elt : E} {x z : Nat} {it : I} {fr : List Nat} {t : Option T} {y yz : Str} {ex ix : Expr} {ifs : List Expr} {sc' : Scope} {px pz q p : Pos} {d : D} (F : FE sc env) (hy : y = nm x) (hx : x ≠ av) (hk : sc.names.lookup y = some .local) (hq : px.line = q.line)
    (hnot : (sc'.names.any fun (n, k) => n == y && (k == .local || k == .cell)) = false) (se : SimE av sc (.comp elt z it fr t) (.ListComp ex [⟨.Name yz pz, ix, ifs, 0⟩] sc' q))
    (h : v.e σ (.comp elt z it fr t) = some d) (I : SInv Fs mg mb X av env B σ l? s.heap) : wpAny (model prog w) A (exec (.Assign [.Name y px] (.ListComp ex [⟨.Name yz pz, ix, ifs, 0⟩] sc' q) p) env) (SP Fs mg mb X av env B (σ.put x d) .next l? s) noE s := by
  have hk' := (F.kindOf y).trans hk
  have hb : env.blockKind = .function := by unfold Env.blockKind; rw [F.ok.kind]; rfl
  have hsw : swapsWith (.ListComp ex [⟨.Name yz pz, ix, ifs, 0⟩] sc' q) (some (.Name y px)) p.line env = pure true := by
    show (pure (env.blockKind == .function && env.kindOf y == some .local && px.line == q.line && !(sc'.names.any fun (n, k) => n == y && (k == .local || k == .cell))) : Sem Bool) = pure true
    rw [hb, hk', hq, hnot]
    simp
  rw [exec_Assign_Name_used _ _ _ _ hsw]
  refine wpAny_bind (wpAny_standAt (wpAny_bind ?_))
  show wpAny _ A (do let _ ← comprehension (.ListComp ex [⟨.Name yz pz, ix, ifs, 0⟩] sc' q) sc' env _ (newList []) false (eval ix env) (some (assign (.Name y px) env))) _ _ s
  refine wpAny_bind (mono (U (Q := fun _ s' => SP Fs mg mb X av env B (σ.put x d) .next l? s .next s') a se F.scok h (I.inv F.ok) fun Dl C s₁ hC hCD hn k r => ?_) fun _ s' hq => wpAny_pure (wpAny_pure hq))
  refine wpAny_assign_Name (wpAny_mono (store_ok F (I.kp k.ext) hy hx (.inl hk) r) (fun _ s₂ h₂ => ?_) fun _ _ e => e)
  obtain ⟨m, hn⟩ := hn
  obtain ⟨m₀, hn₀, hv₀, ha₀⟩ := I.vars
  have hLC : C ≠ env.locals := fun q => by obtain ⟨o, _, _, ho, _⟩ := hn₀; rw [← q, hC] at ho; cases ho
  have hn₂ := hn.sameBut (h₂.2.2 hk) hLC
  refine ⟨m, hn₂, fun h' hs => ⟨l?, h₂.1.other hs.extBut (none_back I.ext hC) hLC (fun z e => ?_) (fun e => ?_) (Odd.ns hn₂), ?_, Grow.same, rfl⟩⟩
  · obtain ⟨_, u, o, ho, _⟩ := I.cl z C e
    rw [hC] at ho; cases ho
  · cases hσ : σ.acc with
    | none => rw [I.ac hσ] at e; cases e
    | some ds =>
      obtain ⟨_, l, vs, e', _, ⟨k, hp⟩, _⟩ := ha₀ ds hσ
      rw [e] at e'; cases e'; rw [hC] at hp; cases hp
  · have c := (Chg.kp (env := env) (l? := l?) k).trans Grow.same h₂.2.1
    obtain ⟨h₃, tk, e, hk₃, hnn⟩ := c
    have e3 : s₂.heap = h₃ := by rw [e]
    refine ⟨h', s₂.toks, by rw [e], fun b o eb h1 h2 h3 => ?_, fun b eb => ?_⟩
    · exact hs.extBut b o (fun q => by rw [q, hC] at eb; cases eb) (e3 ▸ hk₃ b o eb h1 h2 h3)
    · by_cases q : b = C
      · rw [q]; exact hC
      · exact hnn b (by rw [← e3, ← hs.2 b q]; exact eb)

theorem SInv.acc_lt (I : SInv Fs mg mb X av env B σ l? h) {l : Addr} (e : l? = some l) : ∃ o, h.get? l = some o := by
  obtain ⟨m₀, hn₀, hv₀, ha₀⟩ := I.vars
  cases hσ : σ.acc with
  | none => rw [I.ac hσ] at e; cases e
  | some ds =>
    obtain ⟨_, l', vs, e', _, ⟨k, hp⟩, _⟩ := ha₀ ds hσ
    rw [e] at e'; cases e'; exact ⟨_, hp⟩
theorem acc_ok {y : Str} {px q p : Pos} (F : FE sc env) (hy : y = nm av) (hk : sc.names.lookup y = some .local) (hσ : σ.acc = none)(I : SInv Fs mg mb X av env B σ l? s.heap) :
    wpAny (model prog w) A (exec (.Assign [.Name y px] (.List [] q) p) env) (SP Fs mg mb X av env B ⟨σ.env, some []⟩ .next l? s) noE s := by
  have hk' := (F.kindOf y).trans hk
  have hl := I.ac hσ
  subst hl
  obtain ⟨m, hn, hv, hacc⟩ := I.vars
  refine wpAny_Assign_Name (List_ (args_nil (wpAny_newList ?_)))
  have hf : s.heap.get? s.heap.objs.size = none := fresh_none _
  have x₁ : Ext s.heap (s.heap.push { cls := .type "list", data := .seq ([] : List Value).toArray }) := Ext.push _ _
  have hn₁ := hn.keeps x₁
  refine wpAny_storeName_local (s := { s with heap := s.heap.push { cls := .type "list", data := .seq ([] : List Value).toArray } }) hk' hn₁ (fun h₂ hn₂ hs₂ => ?_) (by rw [F.ok.kind]; rfl)
  have hlL : s.heap.objs.size ≠ env.locals := fun q => by obtain ⟨o, _, _, ho, _⟩ := hn; rw [← q, hf] at ho; cases ho
  have st : Stay (s.heap.objs.size :: X) (s.heap.push { cls := .type "list", data := .seq ([] : List Value).toArray }) h₂ := Stay.but hs₂ (Odd.ns hn₁)
  have hcl : ∀ x c v, env.cells.lookup x = some c → s.heap.IsCell c v → h₂.IsCell c v := fun x c v e ic => (ic.keeps x₁).sameBut hs₂ fun q => by
    subst q
    obtain ⟨o, es, ep, ho, hd, _⟩ := hn
    obtain ⟨o', ho', hd'⟩ := ic
    rw [ho] at ho'; cases ho'; rw [hd] at hd'; cases hd'
  have hB : B.get? s.heap.objs.size = none := none_back I.ext hf
  have rel : ∀ {vv d}, Rel ((none : Option Addr).toList ++ X) s.heap vv d → Rel (s.heap.objs.size :: X) h₂ vv d := fun r =>
    ((r.sub fun a ha => by
      rcases List.mem_cons.mp ha with rfl | ha
      · exact .inr hf
      · exact .inl (by simpa using ha)).ext x₁).stay st fun _ h => .inl h
  refine ⟨some s.heap.objs.size, ⟨I.gf, fun b o e => hs₂.extBut b o (fun q => by rw [q, I.fr] at e; cases e) (x₁ _ _ (I.ext b o e)), I.xs, I.fr, fun x c e => ?_, fun e => (nomatch e), I.noav, fun l e => ?_, _, hn₂, fun k d hke => ?_, fun ds e => ?_⟩, ⟨h₂, _, rfl, fun b o e h1 _ _ => hs₂.extBut b o h1 (x₁ _ _ e), fun b e => ?_⟩, fun l e => ?_, rfl⟩
  · obtain ⟨a, u, b⟩ := I.cl x c e
    exact ⟨a, u, hcl x c u e b⟩
  · cases e; exact hB
  · have hne : k ≠ av := fun q => I.noav d (q ▸ hke)
    have hnm : ¬ nm k = y := by rw [hy]; exact fun e => hne (nm_inj e)
    rcases hv k d hke with ⟨a, v, b, r⟩ | ⟨a, c, v, b, ic, r⟩
    · exact .inl ⟨a, v, by simp [hnm, b], rel r⟩
    · exact .inr ⟨a, c, v, b, hcl _ _ _ b ic, rel r⟩
  · cases e
    exact ⟨hy ▸ hk', _, [], rfl, by simp [hy], ⟨0, hs₂.extBut _ _ hlL (Heap.get?_push_size _ rfl)⟩, .nil⟩
  · exact none_back x₁ (none_but hs₂ (let ⟨o, _, _, ho, _⟩ := hn₂; ⟨o, ho⟩) e)
  · cases e; exact .inr hf
end
end Mine
open PySem PySem.W PyProof.Rows PySem.Calls
set_option linter.unusedVariables false
namespace Mine

section
variable {prog : Program} {w : World} {Fs : Addr → Option Obj} {mg mb : Str → Option Value} {A : Around} {X : List Addr} {av : Nat} {env : Env} {σ σ' : St} {s : Shared} {sc : Scope} {v : Ev} {n : Nat} {B h h' : Heap} {l? : Option Addr} {fl : Fl}
theorem read_acc {E : Value → Shared → Prop} {ds : List D} {y : Str} {p : Pos} (F : FE sc env) (I : SInv Fs mg mb X av env B σ l? s.heap) (hσ : σ.acc = some ds) (hy : y = nm av) (h1 : (y == ("__debug__" : Str)) = false) {Q : Value → Shared → Prop}
    (hQ : ∀ l vs, l? = some l → s.heap.PlainList l vs.toArray → RelL (l :: X) s.heap vs ds → Q (.ref l) s) : wpAny (model prog w) A (eval (.Name y p) env) Q E s := by
  obtain ⟨m, hn, _, hacc⟩ := I.vars
  obtain ⟨hk, l, vs, e, hm, hp, r⟩ := hacc ds hσ
  subst hy
  subst e
  exact wpAny_Name (wpAny_loadName_local F.ok.kind hk hn hm (hQ l vs rfl hp r)) h1
theorem SInv.relist {l : Addr} {ds ds' : List D} {vs' : List Value} (I : SInv Fs mg mb X av env B σ (some l) h) (hσ : σ.acc = some ds) (hk : ∀ b o, b ≠ l → h.get? b = some o → h'.get? b = some o) (hp' : h'.PlainList l vs'.toArray) (r : RelL (l :: X) h vs' ds') :
    SInv Fs mg mb X av env B ⟨σ.env, some ds'⟩ (some l) h' := by
  obtain ⟨m, hn, hv, hacc⟩ := I.vars
  obtain ⟨ka, l₂, vs, e, hm, hp, _⟩ := hacc ds hσ
  cases e
  have st : Stay (l :: X) h h' := stay_of (B := fun b => b = l) (fun b o hb e => hk b o hb e) fun b hb => by subst hb; exact Odd.lst hp.isList (.head _)
  have hB := I.lf l rfl
  have hcl : ∀ x c v, env.cells.lookup x = some c → h.IsCell c v → h'.IsCell c v := fun x c v e ic => by
    obtain ⟨o, ho, hd⟩ := ic
    refine ⟨o, hk _ _ (fun q => ?_) ho, hd⟩
    obtain ⟨k, hp⟩ := hp
    rw [q, hp] at ho; cases ho; cases hd
  refine ⟨I.gf, fun b o e => hk b o (fun q => by rw [q, hB] at e; cases e) (I.ext b o e), I.xs, I.fr, fun x c e => ?_, fun e => (nomatch e), I.noav, I.lf, m, hn.at' fun o ho => hk _ _ (fun q => NsList (q ▸ hn) hp.isList) ho, fun k e hke => (hv k e hke).move rfl st (hcl _), fun ds₂ e => ?_⟩
  · obtain ⟨a, u, b⟩ := I.cl x c e
    exact ⟨a, u, hcl x c u e b⟩
  · cases e
    exact ⟨ka, l, vs', rfl, hm, hp', r.stay st fun _ h => .inl h⟩

theorem chg_list {l : Addr} {s' : Shared} (e : ∃ h' tk, s' = { s with heap := h', toks := tk }) (hk : ∀ b o, b ≠ l → s.heap.get? b = some o → s'.heap.get? b = some o) (hl : ∃ o, s'.heap.get? l = some o) (hn : ∃ o, s.heap.get? l = some o) (hnn : ∀ b, b ≠ l → s'.heap.get? b = none → s.heap.get? b = none) : Chg env (some l) s s' := by
  obtain ⟨h', tk, rfl⟩ := e
  refine ⟨h', tk, rfl, fun b o e _ _ h3 => hk b o (fun q => h3 (by rw [q])) e, fun b e => ?_⟩
  by_cases q : b = l
  · subst q; obtain ⟨o, ho⟩ := hl; rw [ho] at e; cases e
  · exact hnn b q e

theorem none_of_keep {l : Addr} (hk : ∀ b o, b ≠ l → h.get? b = some o → h'.get? b = some o) : ∀ b, b ≠ l → h'.get? b = none → h.get? b = none := fun b q e => by
  cases q' : h.get? b with
  | none => rfl
  | some o => rw [hk b o q q'] at e; cases e

theorem app_ok (L : Snd prog w Fs mg mb n v) (a : AOK n A) {e : E} {x : Expr} {y : Str} {p q r t : Pos} {d : D} {ds : List D} (F : FE sc env) (hy : y = nm av) (h1 : (y == ("__debug__" : Str)) = false) (se : SimE av sc e x) (hst : noStar x = true)
    (hm : ∀ env, MC (.Name y p) "append" q [x] r env) (h : v.e σ e = some d) (hσ : σ.acc = some ds) (hlen : okLen ds.length = true) (I : SInv Fs mg mb X av env B σ l? s.heap) :
    wpAny (model prog w) A (exec (.Expr (.Call (.Attribute (.Name y p) "append" q) [x] [] r) t) env) (SP Fs mg mb X av env B ⟨σ.env, some (ds ++ [d])⟩ .next l? s) noE s := by
  obtain ⟨pl, he⟩ := hm env
  refine wpAny_Expr (MethodCall_ (pl := pl) (read_acc F I hσ hy h1 fun l vs e hp r => ?_) he) (by unfold interactive; rw [F.ok.kind]; rfl)
  subst e
  obtain ⟨k, hp'⟩ := id hp
  refine getMethod_list_append hp' rfl rfl ?_
  refine callWith_method1 (args_cons (mono (L.e a se F.scok h (I.inv F.ok)) fun vv s₁ h₁ => args_nil ?_) (star_no hst)) (star_no hst)
  have hp₁ := hp.at (h' := s₁.heap) fun o ho => h₁.1.ext _ _ ho
  have I₁ := I.kp h₁.1.ext
  refine wpAny_list_append_plain hp₁ (fun h₂ hp₂ hs₂ => ?_) (by simpa using sOK_list r hlen)
  have hs' : ∀ b o, b ≠ l → s₁.heap.get? b = some o → h₂.get? b = some o := fun b o hb e => hs₂.extBut b o hb e
  refine ⟨some l, I₁.relist hσ (vs' := vs ++ [vv]) hs' (by simpa using hp₂) ((r.ext h₁.1.ext).append (RelL.one h₁.2)), ?_, Grow.same, rfl⟩
  exact (Chg.kp h₁.1).trans Grow.same (chg_list ⟨h₂, s₁.toks, rfl⟩ hs' (let ⟨k, e⟩ := hp₂; ⟨_, e⟩) (let ⟨k, e⟩ := hp₁; ⟨_, e⟩) (none_of_keep hs'))

theorem ins_ok (L : Snd prog w Fs mg mb n v) (N : Insort prog w Fs mg mb) (hn1 : 1 ≤ n) (a : AOK n A) {e : E} {x : Expr} {y : Str} {p q r t : Pos} {xi : Int} {is : List Int} (F : FE sc env) (hg : isGlob sc "insort_right") (hy : y = nm av) (h1 : (y == ("__debug__" : Str)) = false) (se : SimE av sc e x) (hst : noStar x = true)
    (h : v.e σ e = some (.int xi)) (hσ : σ.acc = some (is.map D.int)) (hlen : okLen is.length = true) (I : SInv Fs mg mb X av env B σ l? s.heap) :
    wpAny (model prog w) A (exec (.Expr (.Call (.Name "insort_right" p) [.Name y q, x] [] r) t) env)
      (SP Fs mg mb X av env B ⟨σ.env, some ((is.map D.int).take (bisR is xi (is.length + 1) 0 is.length) ++ .int xi :: (is.map D.int).drop (bisR is xi (is.length + 1) 0 is.length))⟩ .next l? s) noE s := by
  have J := I.inv F.ok
  obtain ⟨fo, fd, ho, hfd⟩ := (J.gf.fn 13 (by decide)).2
  refine wpAny_Expr (Call_ (mono (name_fn (f := 13) (w := w) (prog := prog) F.ok J.gf F.scok (by decide) (by decide) hg (by decide)) fun f s₁ h₁ => ?_)) (by unfold interactive; rw [F.ok.kind]; rfl)
  obtain ⟨rfl, rfl⟩ := h₁
  refine callWith_def hfd (args_cons (read_acc F I hσ hy h1 fun l vs e hp r => ?_) rfl) rfl
  subst e
  refine args_cons (mono (L.e a se F.scok h (I.inv F.ok)) fun vv s₁ h₁ => args_nil ⟨h₁.1.ext _ _ ho, ?_⟩) (star_no hst)
  obtain ⟨u, rfl⟩ := h₁.2.int_inv
  have hp₁ := hp.at (h' := s₁.heap) fun o ho => h₁.1.ext _ _ ho
  have I₁ := I.kp h₁.1.ext
  refine mono (N (a.mono hn1) (I₁.gf.ext I₁.ext) hp₁ r.ints (okLen_le hlen)) fun vv s₂ h₂ => ?_
  obtain ⟨rfl, h', tk, rfl, hp₂, hk⟩ := h₂
  have r₁ := r.ext h₁.1.ext
  refine ⟨some l, I₁.relist hσ hk hp₂ ((r₁.take _).append (.cons (.int _ _) (r₁.drop _))), ?_, Grow.same, rfl⟩
  exact (Chg.kp h₁.1).trans Grow.same (chg_list ⟨h', tk, rfl⟩ hk (let ⟨k, e⟩ := hp₂; ⟨_, e⟩) (let ⟨k, e⟩ := hp₁; ⟨_, e⟩) (none_of_keep hk))

theorem chg_weak {s' : Shared} (c : Chg env none s s') : Chg env l? s s' := by
  obtain ⟨h', tk, e, h1, h2⟩ := c
  exact ⟨h', tk, e, fun b o eb q1 q2 _ => h1 b o eb q1 q2 (fun q => nomatch q), h2⟩

theorem mov_ok {z : Nat} {y x : Str} {px q p : Pos} {ds : List D} (F : FE sc env) (hy : y = nm z) (hz : z ≠ av) (hx : x = nm av) (h1 : (x == ("__debug__" : Str)) = false) (hk : sc.names.lookup y = some .local) (hσ : σ.acc = some ds) (I : SInv Fs mg mb X av env B σ l? s.heap) :
    wpAny (model prog w) A (exec (.Assign [.Name y px] (.Name x q) p) env) (SP Fs mg mb X av env B ⟨put z (.lst ds) σ.env, none⟩ .next l? s) noE s := by
  refine wpAny_Assign_Name (read_acc F I hσ hx h1 fun l vs e hp r => ?_)
  subst e
  have hl : l ∉ X := fun hm => by
    obtain ⟨o, ho⟩ := I.xs l hm
    rw [I.lf l rfl] at ho; cases ho
  have rl : Rel ((none : Option Addr).toList ++ X) s.heap (.ref l) (.lst ds) := .lst (by simpa using hl) hp.isList (r.sub fun a ha => .inl (List.mem_cons_of_mem _ (by simpa using ha)))
  refine wpAny_mono (store_ok F I.drop hy hz (.inl hk) rl) (fun _ s₂ h₂ => ?_) fun _ _ e => e
  exact ⟨none, h₂.1, chg_weak h₂.2.1, fun _ e => (nomatch e), rfl⟩

theorem ret_ok (L : Snd prog w Fs mg mb n v) (a : AOK n A) {e : E} {x : Expr} {p : Pos} {d : D} (F : FE sc env) (se : SimE av sc e x) (h : v.e σ e = some d) (I : SInv Fs mg mb X av env B σ l? s.heap) :
    wpAny (model prog w) A (exec (.Return (some x) p) env) (SP Fs mg mb X av env B σ (.ret d) l? s) noE s := by
  refine wpAny_Return_some (mono (L.e a se F.scok h (I.inv F.ok)) fun vv s₁ h₁ => ?_)
  exact ⟨l?, I.kp h₁.1.ext, Chg.kp h₁.1, Grow.same, vv, rfl, h₁.2.sub fun a ha => .inl (List.mem_append_right _ ha)⟩

theorem retAcc_ok {y : Str} {q p : Pos} {ds : List D} (F : FE sc env) (hy : y = nm av) (h1 : (y == ("__debug__" : Str)) = false) (hσ : σ.acc = some ds) (I : SInv Fs mg mb X av env B σ l? s.heap) :
    wpAny (model prog w) A (exec (.Return (some (.Name y q)) p) env) (SP Fs mg mb X av env B σ (.ret (.lst ds)) l? s) noE s := by
  refine wpAny_Return_some (read_acc F I hσ hy h1 fun l vs e hp r => ?_)
  subst e
  have hl : l ∉ X := fun hm => by
    obtain ⟨o, ho⟩ := I.xs l hm
    rw [I.lf l rfl] at ho; cases ho
  exact ⟨some l, I, Chg.kp (Kp.rfl' _), Grow.same, _, rfl, .lst hl hp.isList (r.sub fun a ha => .inl (List.mem_cons_of_mem _ ha))⟩

theorem ifs_ok (L : Snd prog w Fs mg mb n v) (LS : SndS prog w Fs mg mb n v) (a : AOK n A) {t : T} {x : Expr} {ss : List S} {xs ys zs : List Stmt} {p : Pos} {b : Bool} (F : FE sc env) (st : SimT av sc t x) (ht : v.t σ t = some b)
    (hz : zs = if b then xs else ys) (sz : SimSs av sc ss zs) (h : v.ss σ ss = some (σ', fl)) (I : SInv Fs mg mb X av env B σ l? s.heap) : wpAny (model prog w) A (exec (.If x xs ys p) env) (SP Fs mg mb X av env B σ' fl l? s) noE s := by
  refine wpAny_If (mono (L.t a st F.scok ht (I.inv F.ok)) fun c s₁ h₁ => ?_)
  obtain ⟨rfl, k⟩ := h₁
  have go := LS.ss a sz F h (I.kp k.ext)
  have fin : ∀ f s', SP Fs mg mb X av env B σ' fl l? s₁ f s' → SP Fs mg mb X av env B σ' fl l? s f s' := fun f s' ⟨l', h1, h2, h3, h4⟩ => ⟨l', h1, (Chg.kp k).trans Grow.same h2, fun l e => (h3 l e).imp id fun q => none_back k.ext q, h4⟩
  cases c with
  | true => subst hz; exact mono go fin
  | false => subst hz; exact mono go fin
end
end Mine
open PySem PySem.W PyProof.Rows PySem.Calls
set_option linter.unusedVariables false
namespace Mine

section
variable {prog : Program} {w : World} {Fs : Addr → Option Obj} {mg mb : Str → Option Value} {A : Around} {X : List Addr} {av : Nat} {env : Env} {σ σ' : St} {s : Shared} {sc : Scope} {v : Ev} {n : Nat} {B h h' : Heap} {l? : Option Addr} {fl : Fl}

theorem SInv.wr {I : Addr} {wr : List Addr} (SI : SInv Fs mg mb X av env B σ l? h) (hwr : ∀ b ∈ wr, b = I) (hk : ∀ b o, b ∉ wr → h.get? b = some o → h'.get? b = some o) (hI : I ∈ wr → B.get? I = none ∧ I ≠ env.locals ∧ (∀ x, env.cells.lookup x ≠ some I) ∧ l? ≠ some I ∧ Odd (l?.toList ++ X) h I) : SInv Fs mg mb X av env B σ l? h' := by
  by_cases q : I ∈ wr
  · obtain ⟨h1, h2, h3, h4, h5⟩ := hI q
    exact SI.other (fun b o hb e => hk b o (fun hm => hb (hwr b hm)) e) h1 h2 h3 h4 h5
  · exact SI.kp fun b o e => hk b o (fun hm => q (hwr b hm ▸ hm)) e

theorem SInv.own_s (SI : SInv Fs mg mb X av env B σ l? h) : (∃ m, h.Ns env.locals m) ∧ (∀ x c, env.cells.lookup x = some c → ∃ u, h.IsCell c u) ∧ ∀ l, l? = some l → ∃ vs : List Value, h.IsList l vs.toArray := by
  obtain ⟨m, hn, hv, hacc⟩ := SI.vars
  refine ⟨⟨m, hn⟩, fun x c e => let ⟨_, u, ic⟩ := SI.cl x c e; ⟨_, ic⟩, fun l e => ?_⟩
  cases hσ : σ.acc with
  | none => rw [SI.ac hσ] at e; cases e
  | some ds =>
    obtain ⟨_, l', vs, e', _, hp, _⟩ := hacc ds hσ
    rw [e] at e'; cases e'; exact ⟨vs, hp.isList⟩
theorem loop_ok (LS : SndS prog w Fs mg mb n v) (a : AOK n A) (F : FE sc env) {target : Expr} {bind : St → D → Option St} {body : List S} {xs : List Stmt} (hs : SimSs av sc body xs)
    (hb : ∀ {σ σ₁ : St} {s : Shared} {d : D} {vv : Value} {l? : Option Addr} {E : Value → Shared → Prop}, bind σ d = some σ₁ → SInv Fs mg mb X av env B σ l? s.heap → Rel (l?.toList ++ X) s.heap vv d →
      wpAny (model prog w) A (assign target env vv) (fun _ s' => SInv Fs mg mb X av env B σ₁ l? s'.heap ∧ Chg env l? s s') E s)
    (ht : ∀ {I : Addr} {vv : Value} {s : Shared} {Q : Unit → Shared → Prop} {E : Value → Shared → Prop}, (∃ o, s.heap.get? I = some o ∧ (o.cls = .type "list_iterator" ∨ o.cls = .type "range_iterator")) → Q () s → wpAny (model prog w) A (letOwnedTupleGo target (.ref I) vv) Q E s)
    {s₁ s₂ : Shared} {ds : List D} {I : Addr} {fp wr : List Addr} {P : Nat → Value → Prop} {St' : Nat → Heap → Prop} {l₀ : Option Addr} {σ₀ : St} (R : Itr prog w A (l₀.toList ++ X) s₁.heap s₂.heap I ds fp wr P St') (k : Kp s₁ s₂) (I₀ : SInv Fs mg mb X av env B σ₀ l₀ s₁.heap)
    (h : loop bind (fun σ => v.ss σ body) ds σ₀ = some (σ', fl)) :
    codeAny (model prog w) A (.forLoop target (.ref I) xs [] env) (fun r s' => match r with | .ok f => SP Fs mg mb X av env B σ' fl l₀ s₁ f s' | .error _ => False) s₂ := by
  obtain ⟨⟨m₁, hns₁⟩, hcl₁, hls₁⟩ := I₀.own_s
  have fpo : ∀ b ∈ fp, b ≠ env.locals ∧ (∀ x, env.cells.lookup x ≠ some b) ∧ l₀ ≠ some b := fun b hb' => by
    obtain ⟨o, ho, h1, h2, h3⟩ := R.fpk b hb'
    refine ⟨fun q => ?_, fun x e => ?_, fun e => ?_⟩
    · obtain ⟨o', es, ep, ho', hd, _⟩ := hns₁.keeps k.ext
      rw [← q, ho] at ho'; cases ho'; exact h1 _ _ hd
    · obtain ⟨u, ic⟩ := hcl₁ x b e
      obtain ⟨o', ho', hd⟩ := ic.keeps k.ext
      rw [ho] at ho'; cases ho'; exact h2 _ hd
    · obtain ⟨vs, o', ho', hc, _⟩ := hls₁ b e
      have := k.ext _ _ ho'
      rw [ho] at this; cases this
      exact h3 hc (List.mem_append_left _ (by rw [e]; simp))
  have fpl : ∀ {l : Option Addr}, (∀ b, l = some b → l₀ = some b ∨ s₂.heap.get? b = none) → ∀ b ∈ fp, l ≠ some b := fun hg b hb' e => by
    rcases hg b e with q | q
    · exact (fpo b hb').2.2 q
    · obtain ⟨o, ho, _⟩ := R.fpk b hb'; rw [q] at ho; cases ho
  have frame : ∀ {i : Nat} {l : Option Addr} {sa sb : Shared}, (∀ b, l = some b → l₀ = some b ∨ s₂.heap.get? b = none) → Chg env l sa sb → St' i sa.heap → St' i sb.heap := fun hg c hst => by
    obtain ⟨hh, tk, rfl, hk, _⟩ := c
    exact R.W.frame _ _ _ hst fun b hb' o e => hk b o e (fpo b hb').1 (fpo b hb').2.1 (fpl hg b hb')
  refine codeAny_forLoop_any (fun kk s' => ∃ i σ l, kk = ds.length + 1 - i ∧ i ≤ ds.length ∧ loop bind (fun σ => v.ss σ body) (ds.drop i) σ = some (σ', fl) ∧ St' i s'.heap ∧ SInv Fs mg mb X av env B σ l s'.heap ∧ Chg env l₀ s₁ s' ∧
      (∀ b, l = some b → l₀ = some b ∨ s₂.heap.get? b = none) ∧ (∀ b, s'.heap.get? b = none → s₂.heap.get? b = none)) ?_ _ ⟨0, σ₀, l₀, rfl, Nat.zero_le _, by simpa using h, R.st, I₀.kp k.ext, Chg.kp k, fun b e => .inl e, fun b e => e⟩
  rintro kk s' ⟨i, σ, l, rfl, hi, hg, hst', SI, C, G, NV⟩
  have step : ∀ h' tk, (∀ b o, b ∉ wr → s'.heap.get? b = some o → h'.get? b = some o) →
      SInv Fs mg mb X av env B σ l h' ∧ Chg env l₀ s₁ { s' with heap := h', toks := tk } ∧ ((∀ b ∈ wr, ∃ o, h'.get? b = some o) → ∀ b, h'.get? b = none → s₂.heap.get? b = none) := fun h' tk hk₁ => by
    have hnv : ∀ b, h'.get? b = none → b ∉ wr → s'.heap.get? b = none := fun b e hm => by
      cases q : s'.heap.get? b with
      | none => rfl
      | some o => rw [hk₁ b o hm q] at e; cases e
    refine ⟨SI.wr R.wrI hk₁ fun hm => ?_, ?_, fun hw b e => NV b (hnv b e fun hm => by obtain ⟨o', ho'⟩ := hw b hm; rw [ho'] at e; cases e)⟩
    · have hf := R.W.sub _ hm
      exact ⟨none_back I₀.ext (R.new _ hm), (fpo _ hf).1, (fpo _ hf).2.1, fpl G _ hf, Odd.it (R.it i _ hst')⟩
    · obtain ⟨hh, tk', rfl, hk, hn'⟩ := C
      refine ⟨h', tk, rfl, fun b o e h1 h2 h3 => hk₁ b o (fun hm => by rw [R.new b hm] at e; cases e) (hk b o e h1 h2 h3), fun b e => ?_⟩
      by_cases hm : b ∈ wr
      · exact R.new b hm
      · exact hn' b (hnv b e hm)
  by_cases hlt : i < ds.length
  · obtain ⟨d, hd⟩ : ∃ d, ds[i]? = some d := ⟨_, List.getElem?_eq_getElem hlt⟩
    have hdrop : ds.drop i = d :: ds.drop (i + 1) := by
      rw [List.drop_eq_getElem_cons hlt]
      congr 1
      rw [List.getElem?_eq_getElem hlt] at hd
      exact Option.some.inj hd
    rw [hdrop] at hg
    refine R.W.item i s' _ _ hlt hst' fun vv h' tk hPv hst₁ hk₁ => ?_
    obtain ⟨SI₁, C₁, NV₁⟩ := step h' tk hk₁
    have NV₁ := NV₁ fun b hm => R.fpx _ _ hst₁ b (R.W.sub _ hm)
    refine ht (R.it _ _ hst₁) ?_
    dsimp only [loop] at hg
    split at hg
    · rename_i σ₁ hb₁
      have rv : Rel (l.toList ++ X) h' vv d := by
        have r0 := (R.rel i vv d hPv hd).sub (Y := l.toList ++ (l₀.toList ++ X)) fun b hm => by
          rcases List.mem_append.mp hm with hm | hm
          · have e : l = some b := by cases l <;> simp at hm; rw [hm]
            rcases G b e with q | q
            · exact .inl (List.mem_append_left _ (by rw [q]; simp))
            · exact .inr (none_back k.ext q)
          · exact .inl hm
        obtain ⟨hh, tk', e, hk, _⟩ := C₁
        have e' : hh = h' := by injection e with e1; exact e1.symm
        subst e'
        refine (r0.stay (h' := hh) (stay_of (B := fun b => b = env.locals ∨ (∃ x, env.cells.lookup x = some b) ∨ l₀ = some b) (fun b o hn e => hk b o e (fun q => hn (.inl q)) (fun x q => hn (.inr (.inl ⟨x, q⟩))) fun q => hn (.inr (.inr q))) fun b hB => ?_) fun _ h => .inl h).sub fun b hm => .inl ?_
        · rcases hB with rfl | ⟨x, hx⟩ | q
          · exact Odd.ns hns₁
          · obtain ⟨u, ic⟩ := hcl₁ x b hx; exact Odd.cell ic
          · obtain ⟨vs, il⟩ := hls₁ b q
            exact Odd.lst il (List.mem_append_right _ (List.mem_append_left _ (by rw [q]; simp)))
        · rcases List.mem_append.mp hm with hm | hm
          · exact List.mem_append_left _ hm
          · exact List.mem_append_right _ (List.mem_append_right _ hm)
      refine wpAny_mono (hb (s := { s' with heap := h', toks := tk }) hb₁ SI₁ rv) (fun _ s₃ h₃ => ?_) fun _ _ e => e
      obtain ⟨SI₃, C₃⟩ := h₃
      have st₃ := frame G C₃ hst₁
      have C₁₃ : Chg env l₀ s₁ s₃ := C₁.trans (l' := l) (fun b e => (G b e).imp id fun q => none_back k.ext q) C₃
      have NV₃ : ∀ b, s₃.heap.get? b = none → s₂.heap.get? b = none := fun b e => NV₁ b (C₃.none e)
      split at hg
      · rename_i σ₂ hbody
        refine lift (LS.ss a hs F hbody SI₃) fun f s₄ h₄ => ?_
        obtain ⟨l', SI₄, C₄, G₄, hf⟩ := h₄
        have hf : f = .next := hf
        subst hf
        refine ⟨ds.length + 1 - (i + 1), by omega, i + 1, σ₂, l', rfl, hlt, hg, frame G C₄ st₃, SI₄, C₁₃.trans (l' := l) (fun b e => (G b e).imp id fun q => none_back k.ext q) C₄, fun b e => ?_, fun b e => NV₃ b (C₄.none e)⟩
        rcases G₄ b e with q | q
        · exact G b q
        · exact .inr (NV₃ b q)
      · rename_i σ₂ r hbody
        cases hg
        refine lift (LS.ss a hs F hbody SI₃) fun f s₄ h₄ => ?_
        obtain ⟨l', SI₄, C₄, G₄, u, hf, ru⟩ := h₄
        subst hf
        refine ⟨l', SI₄, C₁₃.trans (l' := l) (fun b e => (G b e).imp id fun q => none_back k.ext q) C₄, fun b e => ?_, u, rfl, ru⟩
        rcases G₄ b e with q | q
        · exact (G b q).imp id fun q => none_back k.ext q
        · exact .inr (none_back k.ext (NV₃ b q))
      · cases hg
    · cases hg
  · have hin : i = ds.length := by omega
    subst hin
    rw [List.drop_length] at hg
    dsimp only [loop] at hg
    cases hg
    refine R.W.done _ _ _ hst' fun h' tk hk₁ => ?_
    obtain ⟨SI₁, C₁, NV₁⟩ := step h' tk hk₁
    exact wpAny_execs_nil ⟨l, SI₁, C₁, fun b e => (G b e).imp id fun q => none_back k.ext q, rfl⟩

theorem let_name {y : Str} {px : Pos} {I : Addr} {vv : Value} {M : Model} {s : Shared} {Q : Unit → Shared → Prop} {E : Value → Shared → Prop} (h : Q () s) : wpAny M A (letOwnedTupleGo (.Name y px) (.ref I) vv) Q E s := wpAny_pure h
theorem let_tuple {elts : List Expr} {k} {px : Pos} {I : Addr} {vv : Value} {M : Model} {s : Shared} {Q : Unit → Shared → Prop} {E : Value → Shared → Prop} (ho : ∃ o, s.heap.get? I = some o ∧ (o.cls = .type "list_iterator" ∨ o.cls = .type "range_iterator")) (h : Q () s) :
    wpAny M A (letOwnedTupleGo (.Tuple elts k px) (.ref I) vv) Q E s := by
  obtain ⟨o, ho, hc⟩ := ho
  unfold letOwnedTupleGo
  cases vv <;> first | exact wpAny_pure h | skip
  refine wpAny_bind (wpAny_load ho ?_)
  rcases hc with hc | hc <;> rw [hc] <;> cases hd : o.data <;> first | exact wpAny_pure h | skip
  all_goals
    rw [if_neg (by simp)]
    exact wpAny_pure h

theorem bind1_ok (F : FE sc env) {x : Nat} {y : Str} {px : Pos} (hy : y = nm x) (hx : x ≠ av) (hk : sc.names.lookup y = some .local ∨ sc.names.lookup y = some .cell) {σ₁ : St} {d : D} {vv : Value} {E : Value → Shared → Prop} (h : bind1 x σ d = some σ₁)
    (I : SInv Fs mg mb X av env B σ l? s.heap) (r : Rel (l?.toList ++ X) s.heap vv d) : wpAny (model prog w) A (assign (.Name y px) env vv) (fun _ s' => SInv Fs mg mb X av env B σ₁ l? s'.heap ∧ Chg env l? s s') E s := by
  unfold bind1 at h
  cases h
  exact wpAny_assign_Name (wpAny_mono (store_ok F I hy hx hk r) (fun _ s' h => ⟨h.1, h.2.1⟩) fun _ _ e => e)

theorem bind2_ok (hh : A.handled = none) (F : FE sc env) {x y : Nat} {nx ny : Str} {px py q : Pos} {k} (hnx : nx = nm x) (hny : ny = nm y) (hx : x ≠ av) (hy : y ≠ av) (kx : sc.names.lookup nx = some .local) (ky : sc.names.lookup ny = some .local) {σ₁ : St} {d : D} {vv : Value} {E : Value → Shared → Prop} (h : bind2 x y σ d = some σ₁)
    (I : SInv Fs mg mb X av env B σ l? s.heap) (r : Rel (l?.toList ++ X) s.heap vv d) : wpAny (model prog w) A (assign (.Tuple [.Name nx px, .Name ny py] k q) env vv) (fun _ s' => SInv Fs mg mb X av env B σ₁ l? s'.heap ∧ Chg env l? s s') E s := by
  unfold bind2 at h
  split at h
  · rename_i a b
    cases h
    obtain ⟨t, vs, rfl, ht, rl⟩ := r.tup_inv
    cases rl with
    | @cons va _ _ _ ra rl =>
      cases rl with
      | @cons vb _ _ _ rb rl =>
        cases rl
        refine assign_Tuple_tuple hh ht rfl (by rfl) fun h₁ hs₁ => ?_
        have x₁ : Ext s.heap h₁ := fun b o e => hs₁ b o (fun q => by rw [q, fresh_none] at e; cases e) e
        have k₁ : Kp s { s with heap := h₁ } := ⟨h₁, s.toks, rfl, x₁⟩
        show wpAny _ _ (do holding [vb] (assign (.Name nx px) env va); holding [] (assign (.Name ny py) env vb); pure ()) _ _ _
        refine wpAny_bind (wpAny_holding (wpAny_assign_Name (wpAny_mono (store_ok (s := { s with heap := h₁ }) F (I.kp x₁) hnx hx (.inl kx) (ra.ext x₁)) (fun _ s₂ h₂ => ?_) fun _ _ e => e)))
        obtain ⟨m₁, hn₁, _⟩ := (I.kp x₁).vars
        have rb₂ : Rel (l?.toList ++ X) s₂.heap vb b := (rb.ext x₁).stay (Stay.but (h₂.2.2 kx) (Odd.ns (m := m₁) hn₁)) fun _ h => .inl h
        refine wpAny_bind (wpAny_holding (wpAny_assign_Name (wpAny_mono (store_ok F h₂.1 hny hy (.inl ky) rb₂) (fun _ s₃ h₃ => ?_) fun _ _ e => e)))
        exact wpAny_pure ⟨h₃.1, ((Chg.kp k₁).trans Grow.same h₂.2.1).trans Grow.same h₃.2.1⟩
  · cases h

theorem SP.pre {s₁ : Shared} (k : Kp s s₁) {f : Flow} {s' : Shared} (h : SP Fs mg mb X av env B σ' fl l? s₁ f s') : SP Fs mg mb X av env B σ' fl l? s f s' :=
  let ⟨l', h1, h2, h3, h4⟩ := h
  ⟨l', h1, (Chg.kp k).trans Grow.same h2, fun l e => (h3 l e).imp id fun q => none_back k.ext q, h4⟩

theorem for_ok (L : Snd prog w Fs mg mb n v) (LS : SndS prog w Fs mg mb n v) (a : AOK n A) (F : FE sc env) {target ix : Expr} {it : I} {bind : St → D → Option St} {body : List S} {xs : List Stmt} {p : Pos} {ds : List D} (hs : SimSs av sc body xs) (hi : SimI av sc it ix) (hf : ∀ v env, foldedSetIterable ix env v = pure v)
    (hb : ∀ {σ σ₁ : St} {s : Shared} {d : D} {vv : Value} {l? : Option Addr} {E : Value → Shared → Prop}, bind σ d = some σ₁ → SInv Fs mg mb X av env B σ l? s.heap → Rel (l?.toList ++ X) s.heap vv d →
      wpAny (model prog w) A (assign target env vv) (fun _ s' => SInv Fs mg mb X av env B σ₁ l? s'.heap ∧ Chg env l? s s') E s)
    (ht : ∀ {I : Addr} {vv : Value} {s : Shared} {Q : Unit → Shared → Prop} {E : Value → Shared → Prop}, (∃ o, s.heap.get? I = some o ∧ (o.cls = .type "list_iterator" ∨ o.cls = .type "range_iterator")) → Q () s → wpAny (model prog w) A (letOwnedTupleGo target (.ref I) vv) Q E s)
    (hds : evalI v σ it = some ds) (h : loop bind (fun σ => v.ss σ body) ds σ = some (σ', fl)) (SI : SInv Fs mg mb X av env B σ l? s.heap) :
    wpAny (model prog w) A (exec (.For target ix xs [] p) env) (SP Fs mg mb X av env B σ' fl l? s) noE s := by
  refine wpAny_For (mono (iter_ok L a hi F.scok hds (SI.inv F.ok)) fun xv s₁ h₁ => mono h₁ fun itv s₂ h₂ => ?_) fun v => hf v env
  obtain ⟨I, fp, wr, P, St', rfl, k₁, k₂, R⟩ := h₂
  refine codeAny_mono (loop_ok LS a F hs hb ht R k₂ (SI.kp k₁.ext) h) fun r s' hr => ?_
  cases r with
  | ok f => exact hr.pre k₁
  | error e => exact hr.elim
end
end Mine
open PySem PySem.W PyProof.Rows PySem.Calls
set_option linter.unusedVariables false
namespace Mine

section
variable {prog : Program} {w : World} {Fs : Addr → Option Obj} {mg mb : Str → Option Value} {A : Around} {X : List Addr} {av : Nat} {env : Env} {σ σ' : St} {s : Shared} {sc : Scope} {v : Ev} {n : Nat} {B h h' : Heap} {l? : Option Addr} {fl : Fl}

theorem stepS_ok (L : Snd prog w Fs mg mb n v) (LS : SndS prog w Fs mg mb n v) (U : CompU prog w Fs mg mb n v) (N : Insort prog w Fs mg mb) (hn1 : 1 ≤ n) (a : AOK n A) {st : S} {x : Stmt} (F : FE sc env) (hs : SimS av sc st x) (h : stepS v σ st = some (σ', fl)) (I : SInv Fs mg mb X av env B σ l? s.heap) :
    wpAny (model prog w) A (exec x env) (SP Fs mg mb X av env B σ' fl l? s) noE s := by
  cases hs with
  | asg hy hx hk se =>
    dsimp only [stepS] at h
    cases hd : v.e σ _ with
    | none => rw [hd] at h; cases h
    | some d => rw [hd] at h; cases h; exact asg_ok L a F hy hx hk se hd I
  | asgC hy hx hk hq hnot se =>
    dsimp only [stepS] at h
    cases hd : v.e σ _ with
    | none => rw [hd] at h; cases h
    | some d => rw [hd] at h; cases h; exact asgC_ok U a F hy hx hk hq hnot se hd I
  | acc hy hk =>
    dsimp only [stepS] at h
    split at h
    · rename_i hσ; cases h; exact acc_ok F hy hk hσ I
    · cases h
  | app hy h1 se hst hm =>
    dsimp only [stepS] at h
    split at h
    · rename_i d hd
      split at h
      · rename_i ds hσ
        cases hc : okLen ds.length <;> rw [hc] at h <;> cases h
        exact app_ok L a F hy h1 se hst hm hd hσ hc I
      · cases h
    · cases h
  | ins hg hy h1 se hst =>
    dsimp only [stepS] at h
    split at h
    · rename_i xi hd
      split at h
      · rename_i ds hσ
        split at h
        · rename_i is his
          cases hc : okLen is.length <;> rw [hc] at h <;> cases h
          have e := ints_get his
          subst e
          exact ins_ok L N hn1 a F hg hy h1 se hst hd hσ hc I
        · cases h
      · cases h
    · cases h
  | mov hy hz hx h1 hk =>
    dsimp only [stepS] at h
    split at h
    · rename_i ds hσ; cases h; exact mov_ok F hy hz hx h1 hk hσ I
    · cases h
  | ifs st sa sb =>
    dsimp only [stepS] at h
    split at h
    · rename_i ht; exact ifs_ok L LS a F st ht rfl sa h I
    · rename_i ht; exact ifs_ok L LS a F st ht rfl sb h I
    · cases h
  | for1 hy hx hk hi hb hf =>
    dsimp only [stepS] at h
    split at h
    · rename_i ds hds
      exact for_ok L LS a F hb hi hf (fun hbd I r => bind1_ok F hy hx hk hbd I r) (fun _ hq => let_name hq) hds h I
    · cases h
  | for2 hnx hny hxy hx hy kx ky hi hb hf =>
    dsimp only [stepS] at h
    split at h
    · rename_i ds hds
      exact for_ok L LS a F hb hi hf (fun hbd I r => bind2_ok a.h F hnx hny hx hy kx ky hbd I r) (fun ho hq => let_tuple ho hq) hds h I
    · cases h
  | ret se =>
    dsimp only [stepS] at h
    cases hd : v.e σ _ with
    | none => rw [hd] at h; cases h
    | some d => rw [hd] at h; cases h; exact ret_ok L a F se hd I
  | retAcc hy h1 =>
    dsimp only [stepS] at h
    cases hσ : σ.acc with
    | none => rw [hσ] at h; cases h
    | some ds => rw [hσ] at h; cases h; exact retAcc_ok F hy h1 hσ I

theorem stepSs_ok (L : Snd prog w Fs mg mb n v) (LS : SndS prog w Fs mg mb n v) (U : CompU prog w Fs mg mb n v) (N : Insort prog w Fs mg mb) (hn1 : 1 ≤ n) (a : AOK n A) {ss : List S} {xs : List Stmt} (F : FE sc env) (hs : SimSs av sc ss xs) (h : stepSs v σ ss = some (σ', fl)) (I : SInv Fs mg mb X av env B σ l? s.heap) :
    wpAny (model prog w) A (execs xs env) (SP Fs mg mb X av env B σ' fl l? s) noE s := by
  cases hs with
  | nil =>
    dsimp only [stepSs] at h
    cases h
    exact wpAny_execs_nil ⟨l?, I, Chg.kp (Kp.rfl' _), Grow.same, rfl⟩
  | cons s1 s2 =>
    dsimp only [stepSs] at h
    split at h
    · rename_i σ₁ h₁
      refine wpAny_execs_cons (mono (stepS_ok L LS U N hn1 a F s1 h₁ I) fun f s₁ hp => ?_)
      obtain ⟨l₁, I₁, C₁, G₁, hf⟩ := hp
      have hf : f = .next := hf
      subst hf
      refine mono (LS.ss a s2 F h I₁) fun f s₂ hp => ?_
      obtain ⟨l₂, I₂, C₂, G₂, hf₂⟩ := hp
      exact ⟨l₂, I₂, C₁.trans G₁ C₂, G₁.trans (fun b e => C₁.none e) G₂, hf₂⟩
    · rename_i σ₁ d h₁
      cases h
      refine wpAny_execs_cons (mono (stepS_ok L LS U N hn1 a F s1 h₁ I) fun f s₁ hp => ?_)
      obtain ⟨l₁, I₁, C₁, G₁, u, hf, ru⟩ := hp
      subst hf
      exact ⟨l₁, I₁, C₁, G₁, u, rfl, ru⟩
    · cases h
end
end Mine
open PySem PySem.W PyProof.Rows PySem.Calls
set_option linter.unusedVariables false
namespace Mine
structure DefOK (Fs : Addr → Option Obj) (f : Nat) (fn : Fn) : Prop where
  ex : ∃ (fd : FuncData) (body : List Stmt) (av : Nat) (o : Obj) (c : Addr) (oc : Obj) (fvs : Array Value) (t : Tok), Fs (fadr f) = some o ∧ o.data = .func fd ∧ fd.code = .ref c ∧ Fs c = some oc ∧ oc.data = .fields fvs ∧ fvs[1]? = some (.str fd.qualname t) ∧
    fd.body = .stmts body ∧ (∀ vs : List Value, vs.length = fn.params.length → bindArgs fd ⟨vs, []⟩ = pure ((fn.params.map nm).zip vs)) ∧ fd.closure = [] ∧ fd.globals = mainGlobals ∧ fd.builtins = builtinsNs ∧
    fd.scope.kind = .function ∧ fd.scope.isCoroutine = false ∧ fd.scope.isGenerator = false ∧ (∀ k ∈ fn.params, fd.scope.names.lookup (nm k) = some .local ∨ fd.scope.names.lookup (nm k) = some .cell) ∧ fn.params.Nodup ∧ av ∉ fn.params ∧ SimSs av fd.scope fn.body body

theorem bindL_not {kindOf : Str → Option NameKind} {n : Str} : ∀ {binds : List (Str × Value)} {m : Str → Option Value}, (∀ x ∈ binds, x.1 ≠ n) → bindL kindOf binds m n = m n
  | [], _, _ => rfl
  | (k, v) :: r, m, h => by
    unfold bindL
    rw [bindL_not fun x hx => h x (.tail _ hx)]
    have := h (k, v) (.head _)
    split
    · show (if n = k then some v else m n) = m n
      rw [if_neg (Ne.symm this)]
    · rfl
theorem bindC_not {kindOf : Str → Option NameKind} {n : Str} : ∀ {binds : List (Str × Value)} {m : Str → Option Value}, (∀ x ∈ binds, x.1 ≠ n) → bindC kindOf binds m n = m n
  | [], _, _ => rfl
  | (k, v) :: r, m, h => by
    unfold bindC
    rw [bindC_not fun x hx => h x (.tail _ hx)]
    have := h (k, v) (.head _)
    split
    · rfl
    · show (if n = k then some v else m n) = m n
      rw [if_neg (Ne.symm this)]
theorem zip_names {ps : List Nat} {vs : List Value} {x : Str × Value} (h : x ∈ (ps.map nm).zip vs) : ∃ k ∈ ps, x.1 = nm k := by
  obtain ⟨a, b⟩ := x
  have := (List.of_mem_zip h).1
  obtain ⟨k, hk, e⟩ := List.mem_map.mp this
  exact ⟨k, hk, e.symm⟩
theorem bind_vars {kindOf : Str → Option NameKind} {X : List Addr} {h : Heap} : ∀ {ps : List Nat} {vs : List Value} {ds : List D} {m cm : Str → Option Value}, ps.Nodup → RelL X h vs ds → (∀ k ∈ ps, kindOf (nm k) = some .local ∨ kindOf (nm k) = some .cell) →
    ∀ k d, look k (ps.zip ds) = some d → (kindOf (nm k) = some .local ∧ ∃ v, bindL kindOf ((ps.map nm).zip vs) m (nm k) = some v ∧ Rel X h v d) ∨ (kindOf (nm k) = some .cell ∧ ∃ v, bindC kindOf ((ps.map nm).zip vs) cm (nm k) = some v ∧ Rel X h v d)
  | [], _, _, _, _, _, _, _, k, d, e => by simp [look] at e
  | p :: ps, _, _, _, _, _, .nil, _, k, d, e => by simp [look] at e
  | p :: ps, _, _, m, cm, hn, .cons (v := v) (vs := vs) (d := d') (ds := ds) hv r, hk, k, d, e => by
    obtain ⟨hp, hn'⟩ := List.nodup_cons.mp hn
    simp only [List.zip_cons_cons, look] at e
    have other : ∀ x ∈ (ps.map nm).zip vs, x.1 ≠ nm p := fun x hx => by
      obtain ⟨j, hj, ej⟩ := zip_names hx
      rw [ej]
      exact fun q => hp (nm_inj q ▸ hj)
    cases hb : Nat.beq k p with
    | true =>
      rw [hb] at e
      cases e
      have := Nat.eq_of_beq_eq_true hb
      subst this
      rcases hk k (.head _) with q | q
      · refine .inl ⟨q, v, ?_, hv⟩
        show bindL kindOf ((nm k, v) :: (ps.map nm).zip vs) m (nm k) = some v
        unfold bindL
        rw [bindL_not other, if_pos q]
        simp
      · refine .inr ⟨q, v, ?_, hv⟩
        show bindC kindOf ((nm k, v) :: (ps.map nm).zip vs) cm (nm k) = some v
        unfold bindC
        rw [bindC_not other, if_neg (by rw [q]; decide)]
        simp
    | false =>
      rw [hb] at e
      show (_ ∧ ∃ u, bindL kindOf ((nm p, v) :: (ps.map nm).zip vs) m (nm k) = some u ∧ _) ∨ (_ ∧ ∃ u, bindC kindOf ((nm p, v) :: (ps.map nm).zip vs) cm (nm k) = some u ∧ _)
      unfold bindL bindC
      exact bind_vars hn' r (fun j hj => hk j (.tail _ hj)) k d e

section
variable {prog : Program} {w : World} {Fs : Addr → Option Obj} {mg mb : Str → Option Value} {A : Around} {X : List Addr} {s : Shared} {v : Ev} {n : Nat}

theorem AOK.deeper {env : Env} (a : AOK (n + 1) A) : AOK n (A.deeper env) := ⟨a.h, by have := a.d; show A.depth + 1 + n ≤ 900; omega, by have := a.u; show A.units + 3 + 4 * n ≤ 9000; omega⟩
theorem def_ok (LS : SndS prog w Fs mg mb n v) (a : AOK (n + 1) A) {f : Nat} {fn : Fn} (DK : DefOK Fs f fn) {ds : List D} {d : D} {vs : List Value} {σ' : St} (hlen : fn.params.length = ds.length) (h : v.ss ⟨fn.params.zip ds, none⟩ fn.body = some (σ', .ret d)) (G : GF Fs mg mb s.heap)
    (hX : ∀ a ∈ X, ∃ o, s.heap.get? a = some o) (r : RelL X s.heap vs ds) : wpAny (model prog w) A (call (.ref (fadr f)) vs) (EP X d s) noE s := by
  obtain ⟨fd, body, av, o, c, oc, fvs, t, ho, hd, hcode, hc, hoc, hq, hbody, hbind, hclo, hglob, hblt, hk, hco, hgen, hps, hnd, hav, sim⟩ := DK.ex
  have hcd : s.heap.CodeRec fd.code fd.qualname := ⟨c, oc, fvs, t, hcode, G.kx _ _ hc, hoc, hq⟩
  refine wpAny_call (codeAny_call_cells (binds := (fn.params.map nm).zip vs) (by have := a.d; show A.depth < 1000; omega) (G.kx _ _ ho) hd G.nolimit hcd hbody (hbind vs (by rw [r.length, hlen])) hclo (fun x hx => ?_) (fun s₁ x => ?_) hco hgen hk)
  · obtain ⟨k, hk', e⟩ := zip_names hx
    rw [e]
    rcases hps k hk' with q | q
    · exact .inl q
    · exact .inr ⟨q, cellsFrom_some _ _ _ (.inl q)⟩
  · have F : FE fd.scope (callEnvC fd s.heap.objs.size (fadr f)) := ⟨rfl, ⟨hk, hglob, hblt⟩, fun g hg => Option.isSome_iff_exists.mp (cellsFrom_some _ _ _ (.inl hg)), fun y z c hy hz => name_of_addr x.apart (mem_of_lookup hy) (mem_of_lookup hz)⟩
    have ext : Ext s.heap s₁.heap := x.toInCall.keep
    have SI : SInv Fs mg mb X av (callEnvC fd s.heap.objs.size (fadr f)) s.heap ⟨fn.params.zip ds, none⟩ none s₁.heap := by
      refine ⟨G, ext, hX, fresh_none _, fun y c e => ⟨?_, _, x.cell y c e⟩, fun _ => rfl, fun d e => ?_, fun _ e => (nomatch e), _, x.toInCall.ns, fun k d e => ?_, fun _ e => (nomatch e)⟩
      · exact Heap.get?_none_of_le (Nat.le_of_lt (x.above y c (mem_of_lookup e)))
      · have go : ∀ (ps : List Nat) (ds : List D), av ∉ ps → look av (ps.zip ds) = none := by
          intro ps
          induction ps with
          | nil => intro ds _; simp [look]
          | cons p ps ih =>
            intro ds hn
            cases ds with
            | nil => simp [look]
            | cons d ds =>
              simp only [List.zip_cons_cons, look]
              cases hb : Nat.beq av p with
              | true => exact absurd (Nat.eq_of_beq_eq_true hb ▸ .head _) hn
              | false => exact ih ds fun q => hn (.tail _ q)
        have e : look av (fn.params.zip ds) = some d := e
        rw [go _ _ hav] at e; cases e
      · have r' : RelL ((none : Option Addr).toList ++ X) s₁.heap vs ds := by simpa using r.ext ext
        rcases bind_vars (kindOf := (callEnvC fd s.heap.objs.size (fadr f)).kindOf) (m := fun _ => none) (cm := fun _ => none) hnd r' (fun k hk => hps k hk) k d e with q | ⟨q, u, hu, ru⟩
        · exact .inl q
        · obtain ⟨c, hc⟩ := F.cell _ q
          exact .inr ⟨.inl q, c, u, hc, hu ▸ x.cell _ c hc, ru⟩
    refine wpAny_mono (LS.ss a.deeper sim F h SI) (fun fl s₂ hp => ?_) fun _ _ e => e.elim
    obtain ⟨l', SI₂, C₂, G₂, u, hf, ru⟩ := hp
    subst hf
    obtain ⟨h₁, tk₁, e₁, _⟩ := x.done
    obtain ⟨h₂, tk₂, e₂, _⟩ := C₂
    refine ⟨⟨h₂, tk₂, by rw [e₂, e₁], ?_⟩, ru⟩
    have : s₂.heap = h₂ := by rw [e₂]
    exact this ▸ SI₂.ext
end
end Mine
open PySem PySem.W PyProof.Rows PySem.Calls
set_option linter.unusedVariables false
namespace Mine
noncomputable def PrimOK (prog : Program) (w : World) (Fs : Addr → Option Obj) (mg mb : Str → Option Value) (prim : Nat → List D → Option D) (f : Nat) : Prop :=
  ∀ {A : Around} {X : List Addr} {ds : List D} {d : D} {vs : List Value} {s : Shared}, AOK 1 A → prim f ds = some d → GF Fs mg mb s.heap → (∀ a ∈ X, ∃ o, s.heap.get? a = some o) → RelL X s.heap vs ds →
    wpAny (model prog w) A (call (.ref (fadr f)) vs) (EP X d s) noE s

section
variable {prog : Program} {w : World} {Fs : Addr → Option Obj} {mg mb : Str → Option Value} {prim : Nat → List D → Option D}

theorem sound (B : Bis prog w Fs mg mb) (N : Insort prog w Fs mg mb) (DK : ∀ f fn, f ≤ 10 → fns f = some fn → DefOK Fs f fn) (PK : ∀ f, f ≤ 10 → fns f = none → PrimOK prog w Fs mg mb prim f) :
    ∀ n, Snd prog w Fs mg mb (n + 1) (ev fns prim n) ∧ SndS prog w Fs mg mb (n + 1) (ev fns prim n) ∧ CompU prog w Fs mg mb (n + 1) (ev fns prim n)
  | 0 => ⟨⟨fun _ _ _ h => (nomatch h), fun _ _ _ h => (nomatch h), fun _ _ h => (nomatch h)⟩, ⟨fun _ _ _ h => (nomatch h)⟩, fun _ _ _ h => (nomatch h)⟩
  | n + 1 => by
    obtain ⟨L, LS, U⟩ := sound B N DK PK n
    refine ⟨⟨fun a hs S h I => ?_, fun a hs S h I => ?_, fun a hf h G hX r => ?_⟩, ⟨fun a hs F h I => ?_⟩, fun a hs S h I K => ?_⟩
    · have a' := a.mono (Nat.le_succ (n + 1))
      have h : stepE (ev fns prim n) _ _ = some _ := h
      refine stepE_ok L B (Nat.succ_le_succ (Nat.zero_le n)) a' hs S h I (fun sp => ?_) (fun h1 h2 h3 h4 => sort_ok h1 h2 h3 h4) (fun _ => max_ok a.h)
      rcases sp with ⟨_, _, _, _, _, rfl⟩ | ⟨_, _, _, _, _, _, rfl⟩ | ⟨_, rfl⟩ | ⟨_, rfl⟩
      · exact comp_expr L a' hs S h I
      · exact comp2_expr L a' hs S h I
      · exact enc_expr L a' hs S h I
      · exact split_expr L a' hs S h I
    · exact stepT_ok L (a.mono (Nat.le_succ (n + 1))) hs S h I
    · rename_i A X f ds d vs s
      have h : stepF fns prim (ev fns prim n) f ds = some d := h
      unfold stepF at h
      cases hfn : fns f with
      | none => rw [hfn] at h; exact PK f hf hfn (a.mono (by omega)) h G hX r
      | some fn =>
        rw [hfn] at h
        simp only at h
        cases hb : Nat.beq fn.params.length ds.length with
        | false => rw [hb] at h; cases h
        | true =>
          rw [hb] at h
          simp only [cond_true] at h
          split at h
          · rename_i σ' d' hss
            cases h
            exact def_ok LS a (DK f fn hf hfn) (Nat.eq_of_beq_eq_true hb) hss G hX r
          · cases h
    · exact stepSs_ok L LS U N (Nat.succ_le_succ (Nat.zero_le n)) (a.mono (Nat.le_succ (n + 1))) F hs h I
    · exact compU_succ L (a.mono (Nat.le_succ (n + 1))) hs S h I K
end
end Mine
open PySem PySem.W PyProof.Rows PySem.Calls
set_option linter.unusedVariables false
namespace Mine

structure BEnv (env : Env) : Prop where
  ok : EnvOK env
  loc : ∀ y ∈ ["a", "x", "lo", "hi", "key"], env.kindOf (Str.ofString y) = some .local
structure BEnvM (env : Env) : Prop extends BEnv env where
  mid : env.kindOf "mid" = some .local
  len : env.kindOf "len" = some .globalImplicit

theorem InCall_kp {s₀ s s' : Shared} {L : Addr} {m : Str → Option Value} (x : InCall s₀ L m s) (k : Kp s s') : InCall s₀ L m s' := by
  obtain ⟨h₁, tk, rfl⟩ := x.same
  obtain ⟨h', tk', rfl, hk⟩ := k
  exact ⟨⟨h', tk', rfl⟩, x.ns.keeps hk, fun b o e => hk b o (x.keep b o e), x.fresh⟩

theorem st_in {M : Model} {A : Around} {E : Value → Shared → Prop} {s₀ s : Shared} {m : Str → Option Value} {env : Env} {n : Str} {v : Value} {Q : Unit → Shared → Prop} (x : InCall s₀ env.locals m s) (hk : env.scope.kind = .function) (hl : env.kindOf n = some .local)
    (h : ∀ s', InCall s₀ env.locals (fun y => if y = n then some v else m y) s' → Q () s') : wpAny M A (storeName env n v) Q E s := by
  refine wpAny_storeName_local hl x.ns (fun h' hn' hs' => h _ ⟨?_, hn', fun b o e => ?_, x.fresh⟩) (by rw [hk]; rfl)
  · obtain ⟨h₁, tk, rfl⟩ := x.same
    exact ⟨h', _, rfl⟩
  · exact hs'.extBut b o (Nat.ne_of_lt (Nat.lt_of_lt_of_le (Heap.lt_size e) x.fresh)) (x.keep b o e)
noncomputable def BI (s₀ : Shared) (env : Env) (l : Addr) (x : Int) (t : Tok) (lo hi : Value) (s : Shared) : Prop :=
  ∃ m, InCall s₀ env.locals m s ∧ m "a" = some (.ref l) ∧ m "x" = some (.int x t) ∧ m "lo" = some lo ∧ m "hi" = some hi ∧ m "key" = some .none

section
variable {prog : Program} {w : World} {Fs : Addr → Option Obj} {mg mb : Str → Option Value} {A : Around} {s₀ s : Shared} {env : Env} {l : Addr} {x : Int} {t : Tok} {lo hi : Value} {E : Value → Shared → Prop} {p : Pos} {Q : Value → Shared → Prop} {Qu : Unit → Shared → Prop}

theorem BI.kp {s' : Shared} (b : BI s₀ env l x t lo hi s) (k : Kp s s') : BI s₀ env l x t lo hi s' := let ⟨m, i, r⟩ := b; ⟨m, InCall_kp i k, r⟩
theorem BI.rLo {M : Model} (B : BEnv env) (b : BI s₀ env l x t lo hi s) (h : Q lo s) : wpAny M A (eval (.Name "lo" p) env) Q E s := by
  obtain ⟨m, i, ha, hx, hl, hh, hk⟩ := b
  exact wpAny_Name (wpAny_loadName_local B.ok.kind (B.loc "lo" (by simp)) i.ns hl h) (by decide)
theorem BI.rHi {M : Model} (B : BEnv env) (b : BI s₀ env l x t lo hi s) (h : Q hi s) : wpAny M A (eval (.Name "hi" p) env) Q E s := by
  obtain ⟨m, i, ha, hx, hl, hh, hk⟩ := b
  exact wpAny_Name (wpAny_loadName_local B.ok.kind (B.loc "hi" (by simp)) i.ns hh h) (by decide)
theorem BI.rX {M : Model} (B : BEnv env) (b : BI s₀ env l x t lo hi s) (h : Q (.int x t) s) : wpAny M A (eval (.Name "x" p) env) Q E s := by
  obtain ⟨m, i, ha, hx, hl, hh, hk⟩ := b
  exact wpAny_Name (wpAny_loadName_local B.ok.kind (B.loc "x" (by simp)) i.ns hx h) (by decide)
theorem BI.rA {M : Model} (B : BEnv env) (b : BI s₀ env l x t lo hi s) (h : Q (.ref l) s) : wpAny M A (eval (.Name "a" p) env) Q E s := by
  obtain ⟨m, i, ha, hx, hl, hh, hk⟩ := b
  exact wpAny_Name (wpAny_loadName_local B.ok.kind (B.loc "a" (by simp)) i.ns ha h) (by decide)
theorem BI.rKey {M : Model} (B : BEnv env) (b : BI s₀ env l x t lo hi s) (h : Q .none s) : wpAny M A (eval (.Name "key" p) env) Q E s := by
  obtain ⟨m, i, ha, hx, hl, hh, hk⟩ := b
  exact wpAny_Name (wpAny_loadName_local B.ok.kind (B.loc "key" (by simp)) i.ns hk h) (by decide)
theorem BI.setLo {M : Model} {v : Value} (B : BEnv env) (b : BI s₀ env l x t lo hi s) (h : ∀ s', BI s₀ env l x t v hi s' → Qu () s') : wpAny M A (storeName env "lo" v) Qu E s := by
  obtain ⟨m, i, ha, hx, hl, hh, hk⟩ := b
  refine st_in i B.ok.kind (B.loc "lo" (by simp)) fun s' i' => h s' ⟨_, i', ?_, ?_, ?_, ?_, ?_⟩
  · rw [if_neg (by decide)]; exact ha
  · rw [if_neg (by decide)]; exact hx
  · rw [if_pos rfl]
  · rw [if_neg (by decide)]; exact hh
  · rw [if_neg (by decide)]; exact hk
theorem BI.setHi {M : Model} {v : Value} (B : BEnv env) (b : BI s₀ env l x t lo hi s) (h : ∀ s', BI s₀ env l x t lo v s' → Qu () s') : wpAny M A (storeName env "hi" v) Qu E s := by
  obtain ⟨m, i, ha, hx, hl, hh, hk⟩ := b
  refine st_in i B.ok.kind (B.loc "hi" (by simp)) fun s' i' => h s' ⟨_, i', ?_, ?_, ?_, ?_, ?_⟩
  · rw [if_neg (by decide)]; exact ha
  · rw [if_neg (by decide)]; exact hx
  · rw [if_neg (by decide)]; exact hl
  · rw [if_pos rfl]
  · rw [if_neg (by decide)]; exact hk
noncomputable def BM (s₀ : Shared) (env : Env) (l : Addr) (x : Int) (t : Tok) (lo hi mid : Value) (s : Shared) : Prop :=
  ∃ m, InCall s₀ env.locals m s ∧ m "a" = some (.ref l) ∧ m "x" = some (.int x t) ∧ m "lo" = some lo ∧ m "hi" = some hi ∧ m "key" = some .none ∧ m "mid" = some mid
theorem BM.bi {mid : Value} (b : BM s₀ env l x t lo hi mid s) : BI s₀ env l x t lo hi s := let ⟨m, i, ha, hx, hl, hh, hk, _⟩ := b; ⟨m, i, ha, hx, hl, hh, hk⟩
theorem BM.kp {mid : Value} {s' : Shared} (b : BM s₀ env l x t lo hi mid s) (k : Kp s s') : BM s₀ env l x t lo hi mid s' := let ⟨m, i, r⟩ := b; ⟨m, InCall_kp i k, r⟩
theorem BM.mid {M : Model} {mid : Value} (B : BEnvM env) (b : BM s₀ env l x t lo hi mid s) (h : Q mid s) : wpAny M A (eval (.Name "mid" p) env) Q E s := by
  obtain ⟨m, i, ha, hx, hl, hh, hk, hm⟩ := b
  exact wpAny_Name (wpAny_loadName_local B.ok.kind B.mid i.ns hm h) (by decide)
theorem BI.setMid {M : Model} {v : Value} (B : BEnvM env) (b : BI s₀ env l x t lo hi s) (h : ∀ s', BM s₀ env l x t lo hi v s' → Qu () s') : wpAny M A (storeName env "mid" v) Qu E s := by
  obtain ⟨m, i, ha, hx, hl, hh, hk⟩ := b
  refine st_in i B.ok.kind B.mid fun s' i' => h s' ⟨_, i', ?_, ?_, ?_, ?_, ?_, ?_⟩
  · rw [if_neg (by decide)]; exact ha
  · rw [if_neg (by decide)]; exact hx
  · rw [if_neg (by decide)]; exact hl
  · rw [if_neg (by decide)]; exact hh
  · rw [if_neg (by decide)]; exact hk
  · rw [if_pos rfl]
theorem at_mid {vs : List Value} {is : List Int} {k : Nat} {u : Tok} {p₁ p₂ p₃ : Pos} (B' : BEnvM env) (b : BM s₀ env l x t lo hi (.int (k : Int) u) s) (hl : s₀.heap.IsList l vs.toArray) (hI : IntsAre vs is) (hk : k < is.length) (hlim : is.length ≤ lim)
    (h : ∀ u' s', BM s₀ env l x t lo hi (.int (k : Int) u) s' → Q (.int (is.getD k 0) u') s') : wpAny (model prog w) A (eval (.Subscript (.Name "a" p₁) (.Name "mid" p₂) p₃) env) Q E s := by
  have B := B'.toBEnv
  refine Subscript_ (b.bi.rA B (b.mid B' ?_))
  have ext : Ext s₀.heap s.heap := let ⟨m, i, _⟩ := b; i.keep
  have ra : Rel [] s.heap (.ref l) (.lst (is.map D.int)) := .lst (by simp) (IsListE ext hl) (IntsAre.rel hI)
  have rb : Rel [] s.heap (.int (k : Int) u) (.int (k : Int)) := .int _ _
  have hd : idxD (.lst (is.map D.int)) (.int (k : Int)) = some (.int (is.getD k 0)) := by
    have h1 : okInt (k : Int) = true := by
      unfold okInt
      have : lim = 100000 := rfl
      exact Nat.ble_eq_true_of_le (by show (k : Int).natAbs ≤ _; simp; omega)
    simp only [idxD, h1, cond_true]
    show (is.map D.int)[k]? = _
    rw [List.getElem?_map, List.getElem?_eq_getElem hk]
    simp [hk]
  refine lift (idx_ok (A := A) (w := w) (prog := prog) hd ra rb (noSlice_sub rfl)) fun v s' hv => ?_
  obtain ⟨kk, rv⟩ := hv
  obtain ⟨u', rfl⟩ := rv.int_inv
  exact h u' s' (b.kp kk)

theorem half {a b : Nat} : ((a : Int) + (b : Int)).fdiv 2 = (((a + b) / 2 : Nat) : Int) := by
  rw [Int.fdiv_eq_ediv_of_nonneg _ (by omega)]
  omega

theorem bisR_le {is : List Int} {x : Int} : ∀ (f lo hi : Nat), lo ≤ hi → lo ≤ bisR is x f lo hi ∧ bisR is x f lo hi ≤ hi
  | 0, lo, hi, h => ⟨Nat.le_refl _, h⟩
  | f + 1, lo, hi, h => by
    unfold bisR
    cases hb : Nat.ble hi lo with
    | true => exact ⟨Nat.le_refl _, h⟩
    | false =>
      have : ¬ hi ≤ lo := fun q => by rw [Nat.ble_eq_true_of_le q] at hb; cases hb
      simp only [cond_false]
      cases decide (x < is.getD ((lo + hi) / 2) 0) with
      | true => have := bisR_le (is := is) (x := x) f lo ((lo + hi) / 2) (by omega); simp only [cond_true]; omega
      | false => have := bisR_le (is := is) (x := x) f ((lo + hi) / 2 + 1) hi (by omega); simp only [cond_false]; omega

theorem bisR_while {vs : List Value} {is : List Int} {K : Nat} {p1 p2 p3 p4 p5 p6 p7 p8 p9 p10 p11 p12 p13 p14 p15 p16 p17 p18 p19 p20 p21 p22 p23 p24 : Pos} {k8 k21 : Nat} (B' : BEnvM env) (hl : s₀.heap.IsList l vs.toArray) (hI : IntsAre vs is) (hlim : is.length ≤ lim)
    {lo₀ hi₀ f₀ : Nat} {t₁ t₂ : Tok} (b₀ : BI s₀ env l x t (.int lo₀ t₁) (.int hi₀ t₂) s) (h₀ : lo₀ ≤ hi₀) (hh₀ : hi₀ ≤ is.length) (hf₀ : hi₀ - lo₀ < f₀) (hK₀ : bisR is x f₀ lo₀ hi₀ = K) :
    codeAny (model prog w) A (.whileLoop (.Compare (.Name "lo" p1) [.Lt] [.Name "hi" p2] p3)
      [.Assign [.Name "mid" p4] (.BinOp (.BinOp (.Name "lo" p5) .Add (.Name "hi" p6) p7) .FloorDiv (.Constant (.int 2) k8 p8) p9) p10,
       .If (.Compare (.Name "x" p11) [.Lt] [.Subscript (.Name "a" p12) (.Name "mid" p13) p14] p15) [.Assign [.Name "hi" p16] (.Name "mid" p17) p18] [.Assign [.Name "lo" p19] (.BinOp (.Name "mid" p20) .Add (.Constant (.int 1) k21 p21) p22) p23] p24] [] env)
      (fun r s' => r = .ok .next ∧ ∃ u v, BI s₀ env l x t (.int (K : Int) u) v s') s := by
  have B := B'.toBEnv
  refine codeAny_whileLoop (fun n s => ∃ (lo hi f : Nat) (t₁ t₂ : Tok), n = hi - lo ∧ BI s₀ env l x t (.int lo t₁) (.int hi t₂) s ∧ lo ≤ hi ∧ hi ≤ is.length ∧ hi - lo < f ∧ bisR is x f lo hi = K) ?_ _ ⟨lo₀, hi₀, f₀, t₁, t₂, rfl, b₀, h₀, hh₀, hf₀, hK₀⟩
  rintro n s ⟨lo, hi, f, t₁, t₂, rfl, b, h, hh, hf, hK⟩
  refine wpAny_isTrue_Compare1 (b.rLo B (b.rHi B (PySem.P.lt_int (wpAny_truthy_bool ?_)))) rfl
  obtain ⟨f, rfl⟩ : ∃ g, f = g + 1 := ⟨f - 1, by omega⟩
  unfold bisR at hK
  by_cases c : lo < hi
  · rw [if_pos (by simpa using c)]
    have hb : Nat.ble hi lo = false := by
      cases q : Nat.ble hi lo with
      | false => rfl
      | true => have := Nat.le_of_ble_eq_true q; omega
    rw [hb] at hK
    simp only [cond_false] at hK
    refine wpAny_execs_cons (wpAny_Assign_Name (wpAny_BinOp (wpAny_BinOp (b.rLo B (b.rHi B (PySem.P.add_int (wpAny_Constant_int ?_)))))))
    refine floordiv_int (by decide) ?_ (Or.inl (PyProof.noPylong_small (by decide)))
    rw [half]
    refine (BI.kp b (Kp.tok _)).setMid B' fun s₁ b₁ => ?_
    refine wpAny_execs_cons (wpAny_If (wpAny_isTrue_Compare1 (b₁.bi.rX B (at_mid B' b₁ hl hI (by omega) hlim fun u' s₂ b₂ => PySem.P.lt_int (wpAny_truthy_bool ?_))) rfl))
    cases hc : decide (x < is.getD ((lo + hi) / 2) 0) with
    | true =>
      rw [hc] at hK
      simp only [if_true]
      refine wpAny_execs_cons (wpAny_Assign_Name (b₂.mid B' (b₂.bi.setHi B fun s₃ b₃ => wpAny_execs_nil (wpAny_execs_nil ?_))))
      exact ⟨(lo + hi) / 2 - lo, by omega, lo, (lo + hi) / 2, f, t₁, _, rfl, b₃, by omega, by omega, by omega, hK⟩
    | false =>
      rw [hc] at hK
      simp only [Bool.false_eq_true, if_false]
      refine wpAny_execs_cons (wpAny_Assign_Name (wpAny_BinOp (b₂.mid B' (wpAny_Constant_int (PySem.P.add_int ?_)))))
      have e : (((lo + hi) / 2 : Nat) : Int) + 1 = (((lo + hi) / 2 + 1 : Nat) : Int) := by omega
      rw [e]
      refine (BI.kp b₂.bi (Kp.tok _)).setLo B fun s₃ b₃ => wpAny_execs_nil (wpAny_execs_nil ?_)
      exact ⟨hi - ((lo + hi) / 2 + 1), by omega, (lo + hi) / 2 + 1, hi, f, _, t₂, rfl, b₃, by omega, hh, by omega, hK⟩
  · rw [if_neg (by simpa using c)]
    have hb : Nat.ble hi lo = true := Nat.ble_eq_true_of_le (by omega)
    rw [hb] at hK
    simp only [cond_true] at hK
    subst hK
    exact wpAny_execs_nil ⟨rfl, t₁, _, b⟩
end
end Mine
open PySem PySem.W PyProof.Rows PySem.Calls
set_option linter.unusedVariables false
namespace Mine
section
variable {prog : Program} {w : World} {Fs : Addr → Option Obj} {mg mb : Str → Option Value} {A : Around} {s₀ s : Shared} {env : Env} {l : Addr} {x : Int} {t : Tok} {lo hi : Value} {E : Value → Shared → Prop} {p : Pos} {Q : Value → Shared → Prop} {Qu : Unit → Shared → Prop}
theorem bisL_le {is : List Int} {x : Int} : ∀ (f lo hi : Nat), lo ≤ hi → lo ≤ bisL is x f lo hi ∧ bisL is x f lo hi ≤ hi
  | 0, lo, hi, h => ⟨Nat.le_refl _, h⟩
  | f + 1, lo, hi, h => by
    unfold bisL
    cases hb : Nat.ble hi lo with
    | true => exact ⟨Nat.le_refl _, h⟩
    | false =>
      have : ¬ hi ≤ lo := fun q => by rw [Nat.ble_eq_true_of_le q] at hb; cases hb
      simp only [cond_false]
      cases decide (is.getD ((lo + hi) / 2) 0 < x) with
      | true => have := bisL_le (is := is) (x := x) f ((lo + hi) / 2 + 1) hi (by omega); simp only [cond_true]; omega
      | false => have := bisL_le (is := is) (x := x) f lo ((lo + hi) / 2) (by omega); simp only [cond_false]; omega

theorem bisL_while {vs : List Value} {is : List Int} {K : Nat} {p1 p2 p3 p4 p5 p6 p7 p8 p9 p10 p11 p12 p13 p14 p15 p16 p17 p18 p19 p20 p21 p22 p23 p24 : Pos} {k8 k21 : Nat} (B' : BEnvM env) (hl : s₀.heap.IsList l vs.toArray) (hI : IntsAre vs is) (hlim : is.length ≤ lim)
    {lo₀ hi₀ f₀ : Nat} {t₁ t₂ : Tok} (b₀ : BI s₀ env l x t (.int lo₀ t₁) (.int hi₀ t₂) s) (h₀ : lo₀ ≤ hi₀) (hh₀ : hi₀ ≤ is.length) (hf₀ : hi₀ - lo₀ < f₀) (hK₀ : bisL is x f₀ lo₀ hi₀ = K) :
    codeAny (model prog w) A (.whileLoop (.Compare (.Name "lo" p1) [.Lt] [.Name "hi" p2] p3)
      [.Assign [.Name "mid" p4] (.BinOp (.BinOp (.Name "lo" p5) .Add (.Name "hi" p6) p7) .FloorDiv (.Constant (.int 2) k8 p8) p9) p10,
       .If (.Compare (.Subscript (.Name "a" p12) (.Name "mid" p13) p14) [.Lt] [.Name "x" p11] p15) [.Assign [.Name "lo" p19] (.BinOp (.Name "mid" p20) .Add (.Constant (.int 1) k21 p21) p22) p23] [.Assign [.Name "hi" p16] (.Name "mid" p17) p18] p24] [] env)
      (fun r s' => r = .ok .next ∧ ∃ u v, BI s₀ env l x t (.int (K : Int) u) v s') s := by
  have B := B'.toBEnv
  refine codeAny_whileLoop (fun n s => ∃ (lo hi f : Nat) (t₁ t₂ : Tok), n = hi - lo ∧ BI s₀ env l x t (.int lo t₁) (.int hi t₂) s ∧ lo ≤ hi ∧ hi ≤ is.length ∧ hi - lo < f ∧ bisL is x f lo hi = K) ?_ _ ⟨lo₀, hi₀, f₀, t₁, t₂, rfl, b₀, h₀, hh₀, hf₀, hK₀⟩
  rintro n s ⟨lo, hi, f, t₁, t₂, rfl, b, h, hh, hf, hK⟩
  refine wpAny_isTrue_Compare1 (b.rLo B (b.rHi B (PySem.P.lt_int (wpAny_truthy_bool ?_)))) rfl
  obtain ⟨f, rfl⟩ : ∃ g, f = g + 1 := ⟨f - 1, by omega⟩
  unfold bisL at hK
  by_cases c : lo < hi
  · rw [if_pos (by simpa using c)]
    have hb : Nat.ble hi lo = false := by
      cases q : Nat.ble hi lo with
      | false => rfl
      | true => have := Nat.le_of_ble_eq_true q; omega
    rw [hb] at hK
    simp only [cond_false] at hK
    refine wpAny_execs_cons (wpAny_Assign_Name (wpAny_BinOp (wpAny_BinOp (b.rLo B (b.rHi B (PySem.P.add_int (wpAny_Constant_int ?_)))))))
    refine floordiv_int (by decide) ?_ (Or.inl (PyProof.noPylong_small (by decide)))
    rw [half]
    refine (BI.kp b (Kp.tok _)).setMid B' fun s₁ b₁ => ?_
    refine wpAny_execs_cons (wpAny_If (wpAny_isTrue_Compare1 (at_mid B' b₁ hl hI (by omega) hlim fun u' s₂ b₂ => b₂.bi.rX B (PySem.P.lt_int (wpAny_truthy_bool ?_))) rfl))
    cases hc : decide (is.getD ((lo + hi) / 2) 0 < x) with
    | true =>
      rw [hc] at hK
      simp only [if_true]
      refine wpAny_execs_cons (wpAny_Assign_Name (wpAny_BinOp (b₂.mid B' (wpAny_Constant_int (PySem.P.add_int ?_)))))
      have e : (((lo + hi) / 2 : Nat) : Int) + 1 = (((lo + hi) / 2 + 1 : Nat) : Int) := by omega
      rw [e]
      refine (BI.kp b₂.bi (Kp.tok _)).setLo B fun s₃ b₃ => wpAny_execs_nil (wpAny_execs_nil ?_)
      exact ⟨hi - ((lo + hi) / 2 + 1), by omega, (lo + hi) / 2 + 1, hi, f, _, t₂, rfl, b₃, by omega, hh, by omega, hK⟩
    | false =>
      rw [hc] at hK
      simp only [Bool.false_eq_true, if_false]
      refine wpAny_execs_cons (wpAny_Assign_Name (b₂.mid B' (b₂.bi.setHi B fun s₃ b₃ => wpAny_execs_nil (wpAny_execs_nil ?_))))
      exact ⟨(lo + hi) / 2 - lo, by omega, lo, (lo + hi) / 2, f, t₁, _, rfl, b₃, by omega, by omega, by omega, hK⟩
  · rw [if_neg (by simpa using c)]
    have hb : Nat.ble hi lo = true := Nat.ble_eq_true_of_le (by omega)
    rw [hb] at hK
    simp only [cond_true] at hK
    subst hK
    exact wpAny_execs_nil ⟨rfl, t₁, _, b⟩

theorem name_len {y : String} {p : Pos} (ok : EnvOK env) (G : GF Fs mg mb s.heap) (hk : env.kindOf "len" = some .globalImplicit) :
    wpAny (model prog w) A (eval (.Name "len" p) env) (fun v s' => v = .builtin "len" ∧ s' = s) noE s :=
  Name_function_global ok.kind hk (loadGlobal_builtin (by rw [ok.glob]; exact G.g) (G.bi "len" (by simp)).1 (by rw [ok.blt]; exact G.b) (G.bi "len" (by simp)).2 ⟨rfl, rfl⟩) (by decide)
theorem bis_body {vs : List Value} {is : List Int} {K : Nat} {q1 q2 q3 q4 q5 q6 q7 q8 q9 q10 q11 q12 q13 q14 q15 q16 q17 q18 q19 q20 : Pos} {c2 c6 c13 : Nat} {rs es wb : List Stmt} {wt : Expr} (B' : BEnvM env) (G : GF Fs mg mb s₀.heap) (hl : s₀.heap.IsList l vs.toArray) (hI : IntsAre vs is) (hlim : is.length ≤ lim) {tl : Tok}
    (b : BI s₀ env l x t (.int 0 tl) .none s)
    (loop : ∀ {s : Shared} {t₁ t₂ : Tok}, BI s₀ env l x t (.int ((0 : Nat) : Int) t₁) (.int (is.length : Int) t₂) s → codeAny (model prog w) A (.whileLoop wt wb [] env) (fun r s' => r = .ok .next ∧ ∃ u v, BI s₀ env l x t (.int (K : Int) u) v s') s) :
    wpAny (model prog w) A (execs [.If (.Compare (.Name "lo" q1) [.Lt] [.Constant (.int 0) c2 q2] q3) rs [] q4,
      .If (.Compare (.Name "hi" q5) [.Is] [.Constant .none c6 q6] q7) [.Assign [.Name "hi" q8] (.Call (.Name "len" q9) [.Name "a" q10] [] q11) q12] [] q13,
      .If (.Compare (.Name "key" q14) [.Is] [.Constant .none c13 q15] q16) [.While wt wb [] q17] es q18, .Return (some (.Name "lo" q19)) q20] env) (fun f s' => Kp s₀ s' ∧ ∃ u, f = .ret (.int (K : Int) u)) noE s := by
  have B := B'.toBEnv
  refine wpAny_execs_cons (wpAny_If (wpAny_isTrue_Compare1 (b.rLo B (wpAny_Constant_int (PySem.P.lt_int (wpAny_truthy_bool ?_)))) rfl))
  rw [show decide ((0 : Int) < 0) = false from by decide]
  simp only [Bool.false_eq_true, if_false]
  refine wpAny_execs_nil ?_
  have b := b.kp (Kp.tok (s := s) (s.toks + 1))
  refine wpAny_execs_cons (wpAny_If (wpAny_isTrue_Compare1 (b.rHi B (wpAny_pure (is_none_gen (wpAny_truthy_bool ?_)))) rfl))
  simp only [beq_self_eq_true, if_true]
  have ext : Ext s₀.heap s.heap := let ⟨m, i, _⟩ := b; i.keep
  refine wpAny_execs_cons (wpAny_Assign_Name (Call_ (mono (name_len (y := "") (w := w) (prog := prog) B.ok (G.ext ext) B'.len) fun f s₁ h₁ => ?_)))
  obtain ⟨rfl, rfl⟩ := h₁
  refine PyProof.Rows.callWith_builtin1 (args_cons (b.rA B (args_nil ?_)) rfl) rfl
  have ra : Rel [] s.heap (.ref l) (.lst (is.map D.int)) := .lst (by simp) (IsListE ext hl) (IntsAre.rel hI)
  have hd : lenD (.lst (is.map D.int)) = some (.int (is.length : Int)) := by
    unfold lenD
    have : okLen (is.map D.int).length = true := Nat.ble_eq_true_of_le (by simpa using hlim)
    simp only [this, cond_true]; simp
  refine mono (len_ok (A := A) (w := w) (prog := prog) (s := { s with toks := s.toks + 1 }) hd ra) fun v s₂ h₂ => ?_
  obtain ⟨k₂, r₂⟩ := h₂
  obtain ⟨u₂, rfl⟩ := r₂.int_inv
  refine (b.kp k₂).setHi B fun s₃ b₃ => wpAny_execs_nil ?_
  refine wpAny_execs_cons (wpAny_If (wpAny_isTrue_Compare1 (b₃.rKey B (wpAny_pure (is_none_gen (wpAny_truthy_bool ?_)))) rfl))
  simp only [beq_self_eq_true, if_true]
  refine wpAny_execs_cons (wpAny_While (codeAny_mono (loop b₃) fun r s₄ h₄ => ?_))
  obtain ⟨rfl, u, v, b₄⟩ := h₄
  refine wpAny_execs_nil (wpAny_execs_cons (wpAny_Return_some (b₄.rLo B ?_)))
  obtain ⟨m, i, _⟩ := b₄
  exact ⟨let ⟨h', tk, e, hk⟩ := i.done; ⟨h', tk, e, hk⟩, u, rfl⟩
end
end Mine
open PySem PySem.W PyProof.Rows PySem.Calls
set_option linter.unusedVariables false
set_option maxRecDepth 100000
namespace Mine
structure DefAt (Fs : Addr → Option Obj) (a : Addr) (fd : FuncData) (body : List Stmt) : Prop where
  ob : ∃ o, Fs a = some o ∧ o.data = .func fd
  code : ∃ c oc fvs t, fd.code = .ref c ∧ Fs c = some oc ∧ oc.data = .fields fvs ∧ fvs[1]? = some (.str fd.qualname t)
  bd : fd.body = .stmts body
  glob : fd.globals = mainGlobals
  blt : fd.builtins = builtinsNs
  kind : fd.scope.kind = .function
  co : fd.scope.isCoroutine = false
  gen : fd.scope.isGenerator = false
  nocell : ∀ x ∈ fd.scope.names, x.2 ≠ .cell
structure AW (A : Around) : Prop where
  h : A.handled = none
  d : A.depth ≤ 950
  u : A.units ≤ 9500
theorem AOK.aw {n : Nat} {A : Around} (a : AOK n A) : AW A := ⟨a.h, by have := a.d; omega, by have := a.u; omega⟩
theorem AOK.aw1 {n : Nat} {A : Around} {env : Env} (a : AOK n A) : AW (A.deeper env) := ⟨a.h, by have := a.d; show A.depth + 1 ≤ 950; omega, by have := a.u; show A.units + 3 ≤ 9500; omega⟩
noncomputable def retOf : Flow → Value
  | .ret v => v
  | _ => .none
noncomputable def BindOK (Fs : Addr → Option Obj) (prog : Program) (w : World) (fd : FuncData) (args : List Value) (binds : List (Str × Value)) : Prop :=
  ∀ (A : Around) (s : Shared) (Q : List (Str × Value) → Shared → Prop) (E : Value → Shared → Prop), (∀ a o, Fs a = some o → s.heap.get? a = some o) → Q binds s → wpAny (model prog w) A (bindArgs fd ⟨args, []⟩) Q E s

section
variable {prog : Program} {w : World} {Fs : Addr → Option Obj} {mg mb : Str → Option Value} {A : Around} {s : Shared}

theorem call_at {a : Addr} {fd : FuncData} {body : List Stmt} {args : List Value} {binds : List (Str × Value)} {Q : Value → Shared → Prop} (DA : DefAt Fs a fd body) (ak : AW A) (G : GF Fs mg mb s.heap) (hbind : BindOK Fs prog w fd args binds)
    (hloc : ∀ x ∈ binds, fd.scope.names.lookup x.1 = some .local)
    (h : ∀ s₁, InCall s (callEnv fd s.heap.objs.size a).locals (fun x => binds.reverse.lookup x) s₁ → wpAny (model prog w) (A.deeper (callEnv fd s.heap.objs.size a)) (execs body (callEnv fd s.heap.objs.size a)) (fun f s' => Q (retOf f) s') noE s₁) :
    wpAny (model prog w) A (call (.ref a) args) Q noE s := by
  obtain ⟨o, ho, hd⟩ := DA.ob
  obtain ⟨c, oc, fvs, t, hcode, hc, hoc, hq⟩ := DA.code
  have hcd : s.heap.CodeRec fd.code fd.qualname := ⟨c, oc, fvs, t, hcode, G.kx _ _ hc, hoc, hq⟩
  refine wpAny_call (codeAny_call_function (by have := ak.d; show A.depth < 1000; omega) (G.kx _ _ ho) hd DA.co DA.gen DA.bd hcd (hbind _ _ _ _ G.kx ?_))
  refine wpAny_newFunctionEnv DA.nocell hloc (fun h₀ hns₀ hsb₀ => ⟨G.nolimit.fresh _ hsb₀, codeAny_func ?_⟩) DA.kind
  refine wpAny_mono (h _ ⟨⟨h₀, _, rfl⟩, hns₀, fun b o e => hsb₀.extBut b o (Nat.ne_of_lt (Heap.lt_size e)) (Heap.get?_push_of_some _ e), Nat.le_refl _⟩) (fun f s' hf => ?_) fun _ _ e => e.elim
  cases f <;> exact hf

noncomputable def bisNames : List (Str × NameKind) := [("a", .local), ("x", .local), ("lo", .local), ("hi", .local), ("key", .local), ("mid", .local), ("ValueError", .globalImplicit), ("len", .globalImplicit)]
noncomputable def insNames : List (Str × NameKind) := [("a", .local), ("x", .local), ("lo", .local), ("hi", .local), ("key", .local), ("bisect_right", .globalImplicit)]
noncomputable def bisBinds (l : Addr) (x : Int) (t tl : Tok) : List (Str × Value) := [("a", .ref l), ("x", .int x t), ("lo", .int 0 tl), ("hi", .none), ("key", .none)]

theorem bisEnvM {fd : FuncData} {L a : Addr} (hg : fd.globals = mainGlobals) (hb : fd.builtins = builtinsNs) (hk : fd.scope.kind = .function) (hn : fd.scope.names = bisNames) : BEnvM (callEnv fd L a) where
  ok := ⟨hk, hg, hb⟩
  loc := by
    show ∀ y ∈ _, fd.scope.names.lookup (Str.ofString y) = _
    rw [hn]; decide
  mid := by show fd.scope.names.lookup _ = _; rw [hn]; decide
  len := by show fd.scope.names.lookup _ = _; rw [hn]; decide
theorem bisEnv {fd : FuncData} {L a : Addr} (hg : fd.globals = mainGlobals) (hb : fd.builtins = builtinsNs) (hk : fd.scope.kind = .function) (hn : fd.scope.names = insNames) : BEnv (callEnv fd L a) where
  ok := ⟨hk, hg, hb⟩
  loc := by
    show ∀ y ∈ _, fd.scope.names.lookup (Str.ofString y) = _
    rw [hn]; decide

theorem bisBI {s₁ : Shared} {env : Env} {l : Addr} {x : Int} {t tl : Tok} (i : InCall s env.locals (fun y => (bisBinds l x t tl).reverse.lookup y) s₁) : BI s env l x t (.int 0 tl) .none s₁ :=
  ⟨_, i, rfl, rfl, rfl, rfl, rfl⟩

theorem bis_loc {fd : FuncData} {l : Addr} {x : Int} {t tl : Tok} (hn : fd.scope.names = bisNames) : ∀ y ∈ bisBinds l x t tl, fd.scope.names.lookup y.1 = some .local := by
  rw [hn]
  intro y hy
  simp only [bisBinds, List.mem_cons, List.not_mem_nil, or_false] at hy
  rcases hy with rfl | rfl | rfl | rfl | rfl <;> rfl
theorem ins_loc {fd : FuncData} {l : Addr} {x : Int} {t tl : Tok} (hn : fd.scope.names = insNames) : ∀ y ∈ bisBinds l x t tl, fd.scope.names.lookup y.1 = some .local := by
  rw [hn]
  intro y hy
  simp only [bisBinds, List.mem_cons, List.not_mem_nil, or_false] at hy
  rcases hy with rfl | rfl | rfl | rfl | rfl <;> rfl
theorem bis_call {f : Nat} {fd : FuncData} {body : List Stmt} {args : List Value} {l : Addr} {x : Int} {t tl : Tok} {K : Nat} (DA : DefAt Fs (fadr f) fd body) (hn : fd.scope.names = bisNames) (ak : AW A) (G : GF Fs mg mb s.heap) (hbind : BindOK Fs prog w fd args (bisBinds l x t tl))
    (h : ∀ (A : Around) (env : Env) (s₁ : Shared), BEnvM env → BI s env l x t (.int 0 tl) .none s₁ → wpAny (model prog w) A (execs body env) (fun f s' => Kp s s' ∧ ∃ u, f = .ret (.int (K : Int) u)) noE s₁) :
    wpAny (model prog w) A (call (.ref (fadr f)) args) (fun v s' => Kp s s' ∧ ∃ t, v = .int (K : Int) t) noE s := by
  refine call_at DA ak G hbind (bis_loc hn) fun s₁ i => ?_
  refine mono (h _ _ s₁ (bisEnvM DA.glob DA.blt DA.kind hn) (bisBI i)) fun f s' hf => ?_
  obtain ⟨k, u, rfl⟩ := hf
  exact ⟨k, u, rfl⟩

theorem fits_small {k : Nat} (h : k ≤ 100000) : ¬(!Builtin.List.listFitsIndex (k : Int)) = true := by
  have e : Builtin.List.listFitsIndex (k : Int) = true := by
    unfold Builtin.List.listFitsIndex
    rw [Bool.and_eq_true]
    exact ⟨decide_eq_true (by omega), decide_eq_true (by omega)⟩
  rw [e]; decide
theorem ins_call {fd : FuncData} {q1 q2 q3 q4 q5 q6 q7 q8 q9 q10 q11 q12 q13 q14 q15 q16 q17 q18 : Pos} {c2 : Nat} {es : List Stmt} {l : Addr} {vs : List Value} {is : List Int} {x : Int} {t tl : Tok}
    (DA : DefAt Fs (fadr 13) fd [.If (.Compare (.Name "key" q1) [.Is] [.Constant .none c2 q2] q3) [.Assign [.Name "lo" q4] (.Call (.Name "bisect_right" q5) [.Name "a" q6, .Name "x" q7, .Name "lo" q8, .Name "hi" q9] [] q10) q11] es q12,
      .Expr (.Call (.Attribute (.Name "a" q13) "insert" q14) [.Name "lo" q15, .Name "x" q16] [] q17) q18]) (hn : fd.scope.names = insNames) (ak : AOK 1 A) (G : GF Fs mg mb s.heap) (hp : s.heap.PlainList l vs.toArray) (hI : IntsAre vs is) (hlim : is.length ≤ lim)
    (hbind : BindOK Fs prog w fd [.ref l, .int x t] (bisBinds l x t tl)) (hm : ∀ env, MC (.Name "a" q13) "insert" q14 [.Name "lo" q15, .Name "x" q16] q17 env)
    (hr : ∀ {A : Around} {s : Shared}, AW A → GF Fs mg mb s.heap → s.heap.IsList l vs.toArray →
      wpAny (model prog w) A (call (.ref (fadr 12)) [.ref l, .int x t, .int 0 tl, .none]) (fun v s' => Kp s s' ∧ ∃ t, v = .int (bisR is x (is.length + 1) 0 is.length) t) noE s) :
    wpAny (model prog w) A (call (.ref (fadr 13)) [.ref l, .int x t]) (fun v s' => v = .none ∧ ∃ h' tk, s' = { s with heap := h', toks := tk } ∧
      h'.PlainList l (vs.take (bisR is x (is.length + 1) 0 is.length) ++ .int x t :: vs.drop (bisR is x (is.length + 1) 0 is.length)).toArray ∧ ∀ b o, b ≠ l → s.heap.get? b = some o → h'.get? b = some o) noE s := by
  refine call_at DA ak.aw G hbind (ins_loc hn) fun s₁ i => ?_
  have B := bisEnv (L := s.heap.objs.size) (a := fadr 13) DA.glob DA.blt DA.kind hn
  have b := bisBI i
  refine wpAny_execs_cons (wpAny_If (wpAny_isTrue_Compare1 (b.rKey B (wpAny_pure (is_none_gen (wpAny_truthy_bool ?_)))) rfl))
  simp only [beq_self_eq_true, if_true]
  have G₁ := G.ext i.keep
  obtain ⟨hmg, fo, fd', ho, hfd⟩ := G₁.fn 12 (by decide)
  have hkind : (callEnv fd s.heap.objs.size (fadr 13)).kindOf "bisect_right" = some .globalImplicit := by show fd.scope.names.lookup _ = _; rw [hn]; decide
  have rd : wpAny (model prog w) (A.deeper (callEnv fd s.heap.objs.size (fadr 13))) (eval (.Name "bisect_right" q5) (callEnv fd s.heap.objs.size (fadr 13))) (fun v s' => v = .ref (fadr 12) ∧ s' = s₁) noE s₁ :=
    Name_function_global B.ok.kind hkind (loadGlobal_global (by rw [B.ok.glob]; exact G₁.g) hmg ⟨rfl, rfl⟩) (by decide)
  refine wpAny_execs_cons (wpAny_Assign_Name (Call_ (mono rd fun f s₂ h₂ => ?_)))
  obtain ⟨rfl, rfl⟩ := h₂
  refine callWith_def hfd (args_cons (b.rA B (args_cons (b.rX B (args_cons (b.rLo B (args_cons (b.rHi B (args_nil ⟨ho, ?_⟩)) rfl)) rfl)) rfl)) rfl) rfl
  refine mono (hr ak.aw1 G₁ (IsListE i.keep hp.isList)) fun v s₃ h₃ => ?_
  obtain ⟨k₃, u, rfl⟩ := h₃
  refine (b.kp k₃).setLo B fun s₄ b₄ => wpAny_execs_nil ?_
  obtain ⟨pl, he⟩ := hm (callEnv fd s.heap.objs.size (fadr 13))
  have i₄ : ∃ m, InCall s (callEnv fd s.heap.objs.size (fadr 13)).locals m s₄ := let ⟨m, i, _⟩ := b₄; ⟨m, i⟩
  obtain ⟨m₄, i₄⟩ := i₄
  obtain ⟨kk, hp₄⟩ := hp.at (h' := s₄.heap) fun o ho => i₄.keep _ _ ho
  refine wpAny_execs_cons (wpAny_Expr (MethodCall_ (pl := pl) (b₄.rA B ?_) he) (by unfold interactive; rw [B.ok.kind]; rfl))
  refine getMethod_builtin ⟨_, hp₄, rfl⟩ PySem.F.plainAttrs_list PySem.F.slot_list_insert PySem.F.type_list_insert (fun a e => by cases e; exact ⟨_, hp₄, rfl⟩) ?_
  refine callWith_method1 (args_cons (b₄.rLo B (args_cons (b₄.rX B (args_nil ?_)) rfl)) rfl)
  have hK := (bisR_le (is := is) (x := x) (is.length + 1) 0 is.length (Nat.zero_le _)).2
  have hlen : vs.length = is.length := by
    have := (IntsAre.rel (X := []) (h := s.heap) hI).length
    simpa using this
  have hlim' : lim = 100000 := rfl
  generalize hKK : bisR is x (is.length + 1) 0 is.length = K at hK b₄ ⊢
  have hk1 : K ≤ 100000 := by omega
  have hk2 : vs.toArray.size ≤ sizeLine := by rw [List.size_toArray, sizeLine_eq]; omega
  have hk3 := fits_small hk1
  generalize hz : (K : Int) = z at hk3 ⊢
  have mt := AutoListH.list_insert_list_int_int_1 l vs.toArray kk z u x t hk3 hk2
  refine call_meets PySem.F.slot_list_insert ⟨_, hp₄, rfl⟩ PySem.F.entry_list_insert (PySem.F.args_list_insert_3 _ _ _) mt ⟨hp₄, ?_⟩
  have earr : (have k := if z < 0 then (z + ((vs.toArray.size : Nat) : Int)).toNat else min z.toNat vs.toArray.size; (vs.toArray.extract 0 k).push (Value.int x t) ++ vs.toArray.extract k) = (vs.take K ++ .int x t :: vs.drop K).toArray := by
    have h0 : ¬ (z < 0) := by omega
    simp only [h0, if_false, List.size_toArray]
    have : min z.toNat vs.length = K := by omega
    rw [this]
    apply Array.toList_inj.mp
    simp
    exact List.take_of_length_le (by simp)
  show wpAny (model prog w) _ (execs [] _) _ _ _
  refine wpAny_execs_nil ⟨rfl, s₄.heap.update l (Obj.mapSeq fun xs => have k := if z < 0 then (z + ((xs.size : Nat) : Int)).toNat else min z.toNat xs.size; (xs.extract 0 k).push (Value.int x t) ++ xs.extract k), s₄.toks, ?_, ?_, fun b' o hb' e => ?_⟩
  · obtain ⟨h₅, tk₅, e₅⟩ := i₄.same
    rw [e₅]
  · have gu := get?_update_seq hp₄ (fun xs => have k := if z < 0 then (z + ((xs.size : Nat) : Int)).toNat else min z.toNat xs.size; (xs.extract 0 k).push (Value.int x t) ++ xs.extract k)
    dsimp only at gu earr
    rw [earr] at gu
    exact ⟨_, gu⟩
  · rw [Heap.get?_update_other _ _ (Ne.symm hb')]
    exact i₄.keep _ _ e
end
end Mine
open PySem PySem.W PyProof.Rows PySem.Calls
set_option linter.unusedVariables false
set_option maxRecDepth 100000
namespace Mine
open Builtin Builtin.Re

theorem sub_tree_str (P : Addr) (t u : Tok) (x : Str) : Builtin.«re.Pattern.sub» ⟨[.ref P, .str (PySem.Str.ofString "\r\n") t, .str x u], []⟩ = (do
    let _ ← holding [.str (PySem.Str.ofString "\r\n") t] (reWholeTarget (.ref P) (.str x u))
    again (.builtin "re.Pattern.sub.loop" ⟨[.ref P, .str x u, .str (PySem.Str.ofString "\r\n") t, rawInt 0, rawInt 0, rawInt 0, rawInt 0, rawInt 0, .bool false, ← newList [], .bool false], []⟩)) := by kernel_rfl
theorem sub_tree_bytes (P : Addr) (t u : Tok) (x : Array UInt8) : Builtin.«re.Pattern.sub» ⟨[.ref P, .bytes #[46, 46] t, .bytes x u], []⟩ = (do
    let _ ← holding [.bytes #[46, 46] t] (reWholeTarget (.ref P) (.bytes x u))
    again (.builtin "re.Pattern.sub.loop" ⟨[.ref P, .bytes x u, .bytes #[46, 46] t, rawInt 0, rawInt 0, rawInt 0, rawInt 0, rawInt 0, .bool false, ← newList [], .bool false], []⟩)) := by kernel_rfl
theorem sub_tree_none (P : Addr) (t u : Tok) (x : Array UInt8) : Builtin.«re.Pattern.sub» ⟨[.ref P, .bytes #[] t, .bytes x u], []⟩ = (do
    let _ ← holding [.bytes #[] t] (reWholeTarget (.ref P) (.bytes x u))
    again (.builtin "re.Pattern.sub.loop" ⟨[.ref P, .bytes x u, .bytes #[] t, rawInt 0, rawInt 0, rawInt 0, rawInt 0, rawInt 0, .bool false, ← newList [], .bool false], []⟩)) := by kernel_rfl
end Mine
namespace Mine
open Builtin Builtin.Re

theorem loop_tree (P l : Addr) (str repl : Value) (n done start : Int) : Builtin.«re.Pattern.sub.loop» ⟨[.ref P, str, repl, rawInt 0, rawInt 0, rawInt n, rawInt done, rawInt start, .bool false, .ref l, .bool false], []⟩ = (do
    let t ← reWholeTarget (.ref P) str
    reLiteralCannotBeTurned repl
    match ← reNextFound t start.toNat false with
    | some m =>
      if done.toNat < m.start then updateSeq l (·.push (← reSlice t.text t.kind done.toNat m.start))
      let item ← pure repl
      if item != .none then updateSeq l (·.push item)
      again (.builtin "re.Pattern.sub.loop" ⟨[.ref P, str, repl, rawInt 0, rawInt 0, rawInt (n + 1), rawInt m.handed, rawInt m.handed, .bool (m.handed == m.start), .ref l, .bool false], []⟩)
    | none =>
      if done.toNat < t.lim then updateSeq l (·.push (← reSlice t.text t.kind done.toNat t.lim))
      let joiner ← reSlice t.text t.kind 0 0
      let text ← if ((← seqItems? (.ref l)).getD #[]).isEmpty then pure joiner
        else call (.builtin (if t.kind == 0 then "str.join" else "bytes.join")) [joiner, .ref l]
      ret text) := by first | rfl | kernel_rfl

section
variable {M : Model} {A : Around} {E : Value → Shared → Prop} {s : Shared}
theorem runFor_done {m : Sre.M} (h : m.outcome.isSome = true) : ∀ k, m.runFor k = m
  | 0 => rfl
  | k + 1 => by unfold Sre.M.runFor; rw [if_pos h]
theorem runFor_succ (n : Nat) (m : Sre.M) : m.runFor (n + 1) = if m.outcome.isSome then m else m.step.runFor n := rfl
theorem runFor_add : ∀ (j k : Nat) (m : Sre.M), m.runFor (j + k) = (m.runFor j).runFor k
  | 0, k, m => by rw [Nat.zero_add]; rfl
  | j + 1, k, m => by
    rw [show j + 1 + k = (j + k) + 1 by omega, runFor_succ, runFor_succ]
    by_cases h : m.outcome.isSome = true
    · rw [if_pos h, if_pos h, runFor_done h]
    · rw [if_neg h, if_neg h]
      exact runFor_add j k m.step
theorem runFor_stop {m : Sre.M} {k n : Nat} (h : (m.runFor k).outcome.isSome = true) (hk : k ≤ n) : m.runFor n = m.runFor k := by
  obtain ⟨j, rfl⟩ : ∃ j, n = k + j := ⟨n - k, by omega⟩
  rw [runFor_add, runFor_done h]
theorem reDrive_ok {Q : Sre.M → Shared → Prop} : ∀ (turns : Nat) (m : Sre.M) (k : Nat), (m.runFor k).outcome.isSome = true → k ≤ 4 * turns → 0 < turns → Q (m.runFor k) s → wpAny M A (reDrive turns m) Q E s
  | 0, _, _, _, _, h, _ => absurd h (Nat.lt_irrefl 0)
  | turns + 1, m, k, hk, hle, _, hQ => by
    show wpAny M A (if (m.runFor reTurnSteps).outcome.isSome = true then pure (m.runFor reTurnSteps) else do rule "sre.turn"; reDrive turns (m.runFor reTurnSteps)) Q E s
    have e4 : reTurnSteps = 4 := rfl
    rw [e4]
    by_cases c : (m.runFor 4).outcome.isSome = true
    · rw [if_pos c]
      by_cases h4 : k ≤ 4
      · rw [runFor_stop hk h4]; exact wpAny_pure hQ
      · rw [runFor_stop c (by omega : 4 ≤ k)] at hQ; exact wpAny_pure hQ
    · rw [if_neg c]
      have h4 : ¬ k ≤ 4 := fun h4 => c (by rw [runFor_stop hk h4]; exact hk)
      refine wpAny_bind (wpAny_rule ?_)
      have e : m.runFor k = (m.runFor 4).runFor (k - 4) := by
        rw [← runFor_add]; congr 1; omega
      refine reDrive_ok turns _ (k - 4) (by rw [← e]; exact hk) (by omega) (by omega) (by rw [← e]; exact hQ)

theorem rules_free {Q : Unit → Shared → Prop} {f : Nat → PUnit → Sem (ForInStep PUnit)} (hf : ∀ i u, f i u = pure (.yield ⟨⟩) ∨ ∃ n, f i u = (do rule n; pure (.yield ⟨⟩))) : ∀ (l : List Nat), Q ⟨⟩ s → wpAny M A (forIn l ⟨⟩ f) Q E s
  | [], h => by rw [List.forIn_nil]; exact wpAny_pure h
  | i :: l, h => by
    rw [List.forIn_cons]
    refine wpAny_bind ?_
    rcases hf i ⟨⟩ with e | ⟨n, e⟩
    · rw [e]; exact wpAny_pure (rules_free hf l h)
    · rw [e]; exact wpAny_bind (wpAny_rule (wpAny_pure (rules_free hf l h)))

theorem run_end {Q : Option Sre.M → Shared → Prop} {m : Sre.M} {k : Nat} (hk : k ≤ 1000000000) (h : (m.runFor k).outcome = some .matched ∧ Q (some (m.runFor k)) s ∨ (m.runFor k).outcome = some .failed ∧ Q none s) : wpAny M A (reRunToEnd m) Q E s := by
  unfold reRunToEnd
  have hs : (m.runFor k).outcome.isSome = true := by rcases h with ⟨e, _⟩ | ⟨e, _⟩ <;> rw [e] <;> rfl
  refine wpAny_bind (reDrive_ok _ m k hs (by omega) (by omega) ?_)
  refine wpAny_bind (rules_free (fun i u => ?_) _ ?_)
  · by_cases c : (m.runFor k).seen.has i = true
    · rw [if_pos c]; exact .inr ⟨_, rfl⟩
    · rw [if_neg c]; exact .inl rfl
  · rcases h with ⟨e, hq⟩ | ⟨e, hq⟩ <;> rw [e] <;> exact wpAny_pure hq
end
noncomputable def findR (code text : Array Nat) (start : Nat) : Option (Option (Nat × Nat)) :=
  match ((Sre.forSearch code text 0 start text.size false).runFor 100000000).outcome with
  | some .matched => some (some (((Sre.forSearch code text 0 start text.size false).runFor 100000000).start, ((Sre.forSearch code text 0 start text.size false).runFor 100000000).handed))
  | some .failed => some none
  | _ => none
noncomputable def subGo (code text repl : Array Nat) : Nat → Nat → Option (List (Array Nat))
  | 0, _ => none
  | f + 1, start => match findR code text start with
    | some none => some (if start < text.size then [text.extract start text.size] else [])
    | some (some (b, e)) => bif Nat.ble start b && (Nat.blt b e && Nat.ble e text.size) then
        match subGo code text repl f e with
        | some r => some ((if start < b then [text.extract start b] else []) ++ repl :: r)
        | none => none
      else none
    | none => none
end Mine
open PySem PySem.W PyProof.Rows PySem.Calls
set_option linter.unusedVariables false
set_option maxRecDepth 100000
namespace Mine
open Builtin Builtin.Re
structure PatAt (Fs : Addr → Option Obj) (P : Addr) (code : Array Nat) (kind : Nat) : Prop where
  ex : ∃ o fs C oc items n, Fs P = some o ∧ o.cls = .type "re.Pattern" ∧ o.dict = none ∧ o.data = .fields fs ∧ reRawNat (fs.getD 6 .none) = kind ∧ reRawNat (fs.getD 2 .none) = 0 ∧ fs.getD 5 .none = .ref C ∧
    Fs C = some oc ∧ oc.data = .seq items n ∧ (items.map reRawOf).map (·.toNat) = code
structure Txt (v : Value) (text : Array Nat) (kind : Nat) : Prop where
  of : reTextOf v = pure (text, kind)
  calm : reNoCollectionInside v kind = pure ()
  lit : reLiteralCannotBeTurned v = pure ()
  none : (v != Value.none) = true

theorem txt_str (x : Str) (t : Tok) : Txt (.str x t) x.cps 0 := ⟨rfl, rfl, rfl, rfl⟩
theorem txt_bytes (b : Array UInt8) (t : Tok) : Txt (.bytes b t) (b.map (·.toNat)) 1 where
  of := by
    have e : reTextOf (.bytes b t) = (Bytes.bufferQuiet? "_sre" (.bytes b t) >>= fun r => match r with
      | some b => pure (b.map (·.toNat), 1)
      | none => do raiseError "TypeError" s!"expected string or bytes-like object, got '{← typeNameOf (.bytes b t)}'") := rfl
    rw [e, KBy.quiet_eq]; rfl
  calm := by
    have e : reNoCollectionInside (.bytes b t) 1 = (isInstance (.bytes b t) (.type "bytes") >>= fun r => if (!r) = true then noCollectionInside "_sre:a-collection-may-fall-inside-the-match-while-it-holds-a-buffer-that-can-be-written" else pure ()) := rfl
    rw [e, KBy.isInstance_eq]; rfl
  lit := by
    have e : reLiteralCannotBeTurned (.bytes b t) = (isInstance (.bytes b t) (.type "bytes") >>= fun r => if (!r) = true then noCollectionInside "_sre:a-collection-may-fall-inside-the-match-while-a-literal-replacement-can-be-written" else pure ()) := rfl
    rw [e, KBy.isInstance_eq]; rfl
  none := rfl
noncomputable def PV (kind : Nat) (v : Value) (p : Array Nat) : Prop := if kind = 0 then ∃ t, v = .str ⟨p⟩ t else ∃ t, v = .bytes (p.map (·.toUInt8)) t
inductive PVs (kind : Nat) : List Value → List (Array Nat) → Prop
  | nil : PVs kind [] []
  | cons {v vs p ps} : PV kind v p → PVs kind vs ps → PVs kind (v :: vs) (p :: ps)
theorem PVs.append {kind : Nat} {vs ws : List Value} {ps qs : List (Array Nat)} (a : PVs kind vs ps) (b : PVs kind ws qs) : PVs kind (vs ++ ws) (ps ++ qs) := by
  induction a with
  | nil => exact b
  | cons h _ ih => exact .cons h ih
theorem PVs.length {kind : Nat} {vs : List Value} {ps : List (Array Nat)} (a : PVs kind vs ps) : vs.length = ps.length := by
  induction a with
  | nil => rfl
  | cons h _ ih => simp [ih]
noncomputable def flat (ps : List (Array Nat)) : Array Nat := ps.foldl (· ++ ·) #[]
noncomputable def JoinOK (prog : Program) (w : World) (kind : Nat) : Prop :=
  ∀ {A : Around} {s : Shared} {l : Addr} {e : Nat} {j : Value} {vs : List Value} {ps : List (Array Nat)}, s.heap.get? l = some (seqObj "list" vs.toArray e) → PV kind j #[] → PVs kind vs ps → 0 < ps.length → ps.length ≤ lim → (flat ps).size ≤ lim →
    wpAny (model prog w) A (call (.builtin (if kind == 0 then "str.join" else "bytes.join")) [j, .ref l]) (fun v s' => Kp s s' ∧ PV kind v (flat ps)) noE s

section
variable {prog : Program} {w : World} {Fs : Addr → Option Obj} {A : Around} {s : Shared} {P : Addr} {code : Array Nat} {kind : Nat}

theorem whole_ok {v : Value} {text : Array Nat} {Q : ReTarget → Shared → Prop} {E : Value → Shared → Prop} {M : Model} (pt : PatAt Fs P code kind) (kx : ∀ a o, Fs a = some o → s.heap.get? a = some o) (tx : Txt v text kind)
    (h : ∀ t : ReTarget, t.code = code → t.text = text → t.kind = kind → t.groups = 0 → t.lim = text.size → Q t s) : wpAny M A (reWholeTarget (.ref P) v) Q E s := by
  obtain ⟨o, fs, C, oc, items, n, ho, hc, hd0, hd, hk, hg, h5, hC, hCd, hcode⟩ := pt.ex
  unfold reWholeTarget
  refine wpAny_bind (wpAny_fieldsOf (kx _ _ ho) hd ?_)
  rw [tx.of]
  refine wpAny_bind (wpAny_pure ?_)
  dsimp only
  rw [hk]
  have k1 : (kind == 0 && kind == 1) = false := by
    by_cases q : kind = 0
    · subst q; rfl
    · have : (kind == 0) = false := by simpa using q
      rw [this]; rfl
  have k2 : (kind == 1 && kind == 0) = false := by rw [Bool.and_comm]; exact k1
  rw [k1, k2]
  simp only [Bool.false_eq_true, if_false]
  rw [tx.calm]
  refine wpAny_bind (wpAny_pure ?_)
  rw [h5]
  refine wpAny_bind ?_
  unfold reRawItems
  refine wpAny_bind (wpAny_seqItems (kx _ _ hC) hCd (wpAny_pure ?_))
  exact wpAny_pure (h _ hcode rfl rfl hg rfl)

theorem slice_ok {text : Array Nat} {b e : Nat} {Q : Value → Shared → Prop} {E : Value → Shared → Prop} {M : Model} (hs : text.size ≤ lim) (h : ∀ v, PV kind v (text.extract b e) → Q v { s with toks := s.toks + 1 }) : wpAny M A (reSlice text kind b e) Q E s := by
  have hl : (text.extract b e).size ≤ sizeLine := by
    rw [Array.size_extract, sizeLine_eq]
    have : lim = 100000 := rfl
    omega
  unfold reSlice
  by_cases q : kind = 0
  · subst q
    rw [if_pos (show ((0 : Nat) == 0) = true from rfl)]
    exact wpAny_mkStr (h _ ⟨_, rfl⟩) hl
  · rw [if_neg (by simpa using q)]
    refine mkBytes_ok (by simpa using hl) (h _ ?_)
    unfold PV
    rw [if_neg q]
    exact ⟨_, rfl⟩

theorem find_ok {text : Array Nat} {start : Nat} {t : ReTarget} {r : Option (Nat × Nat)} {Q : Option Sre.M → Shared → Prop} {E : Value → Shared → Prop} {M : Model} (hc : t.code = code) (ht : t.text = text) (hg : t.groups = 0) (hl : t.lim = text.size) (hf : findR code text start = some r)
    (h : ∀ m : Option Sre.M, m.map (fun m => (m.start, m.handed)) = r → Q m s) : wpAny M A (reNextFound t start false) Q E s := by
  unfold reNextFound
  rw [hc, ht, hg, hl]
  unfold findR at hf
  refine run_end (k := 100000000) (by decide) ?_
  split at hf
  · rename_i e
    cases hf
    exact .inl ⟨e, h _ rfl⟩
  · rename_i e
    cases hf
    exact .inr ⟨e, h _ rfl⟩
  · cases hf

theorem entry_loop : entryFor table "re.Pattern.sub.loop" = some Builtin.«re.Pattern.sub.loop» := entryFor_of_tree (by kernel_rfl)

theorem flat_append (ps qs : List (Array Nat)) : flat (ps ++ qs) = flat ps ++ flat qs := by
  unfold flat
  rw [List.foldl_append]
  generalize ps.foldl (· ++ ·) #[] = a
  induction qs generalizing a with
  | nil => simp
  | cons q qs ih => rw [List.foldl_cons, List.foldl_cons, ih, ih (#[] ++ q)]; simp
theorem subloop_ok {txt repl : Value} {text rp : Array Nat} {l : Addr} (J : JoinOK prog w kind) (pt : PatAt Fs P code kind) (tx : Txt txt text kind) (rx : Txt repl rp kind) (rv : PV kind repl rp) (hsz : text.size ≤ lim) {R : Result → Shared → Prop} :
    ∀ (f start : Nat) (A : Around) (s : Shared) (n : Int) (vs : List Value) (ps out : List (Array Nat)) (e : Nat), (∀ a o, Fs a = some o → s.heap.get? a = some o) → (∀ o, Fs l ≠ some o) → s.heap.get? l = some (seqObj "list" vs.toArray e) → PVs kind vs ps →
      subGo code text rp f start = some out → ps.length + out.length ≤ lim → (flat ps ++ flat out).size ≤ lim →
      (∀ v h' tk, (∀ b o, b ≠ l → s.heap.get? b = some o → h'.get? b = some o) → PV kind v (flat ps ++ flat out) → R (.ok (.ret v)) { s with heap := h', toks := tk }) →
      codeAny (model prog w) A (.builtin "re.Pattern.sub.loop" ⟨[.ref P, txt, repl, rawInt 0, rawInt 0, rawInt n, rawInt (start : Int), rawInt (start : Int), .bool false, .ref l, .bool false], []⟩) R s
  | 0, _, _, _, _, _, _, _, _, _, _, _, _, h, _, _, _ => by simp [subGo] at h
  | f + 1, start, A, s, n, vs, ps, out, e, kx, hFl, hl, pv, hgo, hlen, hflat, K => by
    have hlim : lim = 100000 := rfl
    refine codeAny_builtin entry_loop ?_
    rw [loop_tree]
    refine wpAny_bind (whole_ok pt kx tx fun t h1 h2 h3 h4 h5 => ?_)
    rw [rx.lit]
    refine wpAny_bind (wpAny_pure ?_)
    simp only [subGo] at hgo
    rw [Int.toNat_natCast]
    have push : ∀ {s : Shared} {vs : List Value} {ps : List (Array Nat)} {e : Nat} {v : Value} {p : Array Nat} {Q : Unit → Shared → Prop} {E : Value → Shared → Prop} {A : Around}, s.heap.get? l = some (seqObj "list" vs.toArray e) → PVs kind vs ps → ps.length ≤ lim → PV kind v p →
        (∀ h' e', h'.get? l = some (seqObj "list" (vs ++ [v]).toArray e') → Heap.SameBut l s.heap h' → Q () { s with heap := h' }) → wpAny (model prog w) A (updateSeq l (·.push v)) Q E s := fun {s vs ps e v p Q E A} hl pv hle hv hQ => by
      refine wpAny_updateSeq hl rfl (hQ _ (e + 1) ?_ (Heap.SameBut.update ..)) (by rw [List.size_toArray, pv.length, sizeLine_eq]; omega) (by rw [Array.size_push, List.size_toArray, pv.length, sizeLine_eq]; omega)
      · have := get?_update_seq hl (·.push v)
        have e2 : ((vs.toArray.push v).size == vs.toArray.size) = false := by simp
        simp only [e2, Bool.false_eq_true, if_false] at this
        rw [this]; simp
    split at hgo
    · rename_i hf
      cases hgo
      refine wpAny_bind (find_ok h1 h2 h4 h5 hf fun m hm => ?_)
      cases m with
      | some m => cases hm
      | none =>
        dsimp only
        rw [h2, h3, h5]
        have last : ∀ (A' : Around) (s' : Shared) (vs' : List Value) (ps' : List (Array Nat)) (e' : Nat), s'.heap.get? l = some (seqObj "list" vs'.toArray e') → PVs kind vs' ps' → flat ps' = flat ps ++ flat (if start < text.size then [text.extract start text.size] else []) → ps'.length ≤ lim →
            (∃ h' tk, s' = { s with heap := h', toks := tk } ∧ ∀ b o, b ≠ l → s.heap.get? b = some o → h'.get? b = some o) →
            wpAny (model prog w) A' (do
              let joiner ← reSlice text kind 0 0
              let text ← if ((← seqItems? (.ref l)).getD #[]).isEmpty then pure joiner else call (.builtin (if kind == 0 then "str.join" else "bytes.join")) [joiner, .ref l]
              ret text) (fun fin s' => match fin with | .done f => R (.ok f) s' | .again c' => c'.quiet = true ∧ codeAny (model prog w) A c' R s') (fun e s' => R (.error e) s') s' := by
          rintro A' s' vs' ps' e' hl' pv' hfl hle ⟨h', tk, rfl, hk⟩
          refine wpAny_bind (slice_ok hsz fun j hj => ?_)
          have hj : PV kind j #[] := by simpa using hj
          refine wpAny_bind (wpAny_seqItems (s := { s with heap := h', toks := tk + 1 }) hl' rfl ?_)
          cases pv' with
          | nil =>
            rw [if_pos (by rfl)]
            refine wpAny_bind (wpAny_pure (wpAny_pure ?_))
            refine K j h' (tk + 1) hk ?_
            rw [← hfl]; exact hj
          | cons hv r =>
            rename_i v vs'' p ps''
            rw [if_neg (by simp)]
            refine wpAny_bind (wpAny_mono (J (s := { s with heap := h', toks := tk + 1 }) hl' hj (.cons hv r) (by simp) hle (by rw [hfl]; exact hflat)) (fun v' s'' h'' => ?_) fun _ _ e => e.elim)
            obtain ⟨⟨h3, tk3, rfl, hk3⟩, hpv⟩ := h''
            refine wpAny_pure ?_
            rw [hfl] at hpv
            exact K v' h3 tk3 (fun b o hb e => hk3 b o (hk b o hb e)) hpv
        by_cases c : start < text.size
        · rw [if_pos c] at hlen hflat last ⊢
          refine wpAny_bind (slice_ok hsz fun v hv => wpAny_bind ?_)
          refine push (s := { s with toks := s.toks + 1 }) hl pv (by omega) hv fun h' e' hl' hs' => ?_
          refine last _ _ _ (ps ++ [text.extract start text.size]) e' hl' (pv.append (.cons hv .nil)) (flat_append _ _) (by simpa using hlen) ⟨h', s.toks + 1, rfl, fun b o hb e => hs'.extBut b o hb e⟩
        · rw [if_neg c] at hlen hflat last ⊢
          exact last _ s vs ps e hl pv (by simp [flat]) (by simpa using hlen) ⟨s.heap, s.toks, rfl, fun b o _ e => e⟩
    · rename_i b en hf
      cases hc : Nat.ble start b && (Nat.blt b en && Nat.ble en text.size) with
      | false => rw [hc] at hgo; cases hgo
      | true =>
        rw [hc] at hgo
        simp only [cond_true] at hgo
        split at hgo
        · rename_i r hr
          cases hgo
          simp only [Bool.and_eq_true] at hc
          have c1 := Nat.le_of_ble_eq_true hc.1
          have c2 : b < en := Nat.le_of_ble_eq_true hc.2.1
          have c3 := Nat.le_of_ble_eq_true hc.2.2
          refine wpAny_bind (find_ok h1 h2 h4 h5 hf fun m hm => ?_)
          cases m with
          | none => cases hm
          | some m =>
            have e1 : m.start = b := by simp at hm; exact hm.1
            have e2 : m.handed = en := by simp at hm; exact hm.2
            dsimp only
            rw [e1, e2, h2, h3]
            have must : (en == b) = false := by simp; omega
            rw [must]
            have next : ∀ (A' : Around) (s' : Shared) (vs' : List Value) (ps' : List (Array Nat)) (e' : Nat), s'.heap.get? l = some (seqObj "list" vs'.toArray e') → PVs kind vs' ps' → ps' = ps ++ (if start < b then [text.extract start b] else []) →
                (∃ h' tk, s' = { s with heap := h', toks := tk } ∧ ∀ b o, b ≠ l → s.heap.get? b = some o → h'.get? b = some o) →
                wpAny (model prog w) A' (do
                  let item ← pure repl
                  if item != .none then updateSeq l (·.push item)
                  again (.builtin "re.Pattern.sub.loop" ⟨[.ref P, txt, repl, rawInt 0, rawInt 0, rawInt (n + 1), rawInt (en : Int), rawInt (en : Int), .bool false, .ref l, .bool false], []⟩))
                  (fun fin s' => match fin with | .done f => R (.ok f) s' | .again c' => c'.quiet = true ∧ codeAny (model prog w) A c' R s') (fun e s' => R (.error e) s') s' := by
              rintro A' s' vs' ps' e' hl' pv' hps ⟨h', tk, rfl, hk⟩
              refine wpAny_bind (wpAny_pure ?_)
              rw [if_pos rx.none]
              have hle : ps'.length + (1 + r.length) ≤ lim := by
                rw [hps]; simp at hlen ⊢; omega
              refine wpAny_bind (push (s := { s with heap := h', toks := tk }) hl' pv' (by omega) rv fun h2 e2 hl2 hs2 => ?_)
              refine wpAny_pure ⟨Code.quiet_builtin _ (by decide +kernel), ?_⟩
              have hfl : flat (ps' ++ [rp]) ++ flat r = flat ps ++ flat ((if start < b then [text.extract start b] else []) ++ rp :: r) := by
                rw [hps, ← flat_append, ← flat_append]; simp
              refine subloop_ok J pt tx rx rv hsz f en _ { s with heap := h2, toks := tk } (n + 1) _ (ps' ++ [rp]) r e2 (fun a o ho => ?_) hFl hl2 (pv'.append (.cons rv .nil)) hr (by simp at hle ⊢; omega) (by rw [hfl]; exact hflat) fun v h3 tk3 hk3 hv => ?_
              · have hal : a ≠ l := fun q => hFl o (q ▸ ho)
                exact hs2.extBut a o hal (hk a o hal (kx a o ho))
              · exact K v h3 tk3 (fun b o hb e => hk3 b o hb (hs2.extBut b o hb (hk b o hb e))) (hfl ▸ hv)
            by_cases c : start < b
            · rw [if_pos c] at next ⊢
              refine wpAny_bind (slice_ok hsz fun v hv => wpAny_bind ?_)
              refine push (s := { s with toks := s.toks + 1 }) hl pv (by omega) hv fun h' e' hl' hs' => ?_
              exact next _ _ _ (ps ++ [text.extract start b]) e' hl' (pv.append (.cons hv .nil)) rfl ⟨h', s.toks + 1, rfl, fun b o hb e => hs'.extBut b o hb e⟩
            · rw [if_neg c] at next ⊢
              exact next _ s vs ps e hl pv (by simp) ⟨s.heap, s.toks, rfl, fun b o _ e => e⟩
        · cases hgo
    · cases hgo
end
end Mine
open PySem PySem.W PyProof.Rows PySem.Calls
set_option linter.unusedVariables false
set_option maxRecDepth 100000
namespace Mine
open Builtin Builtin.Re

theorem slot_bytes_join : Slot "bytes" "join" "bytes.join" :=
  .of (owner := "bytes") (n := "join") (by rw [typeLookup_type, builtinLookup_eq_fast]; kernel_rfl) (by decide +kernel) (by decide +kernel) (by decide +kernel)
    (by first | exact .inl (by decide +kernel) | exact .inr (by decide +kernel)) (by rw [isSubtype_type]; kernel_rfl)
theorem entry_bytes_join : entryFor table "bytes.join" = some Builtin.«bytes.join» := entryFor_of_tree (by kernel_rfl)
theorem args_bytes_join (a b : Value) : argsOk "bytes.join" ⟨[a, b], []⟩ := by unfold argsOk; kernel_rfl

theorem takeQuiet_bytes {id : String} {b : Array UInt8} {t : Tok} : Bytes.takeBufferQuiet? id (.bytes b t) 0 = pure (some (b, none)) := by
  unfold Bytes.takeBufferQuiet? Bytes.takeBuffer?
  rw [KBy.special_eq KBy.look_buffer]
  simp only [pure_bind, KBy.own_buffer]
  have e : (0 == Bytes.fullReadOnly) = false := by decide
  rw [e]
  have : Bytes.buffer? id (.bytes b t) (full := false) = pure (some b) := KBy.buffer_eq
  rw [this]
  rfl

theorem forIn_inv {M : Model} {A : Around} {E : Value → Shared → Prop} {s : Shared} {β : Type} {f : Nat → β → Sem (ForInStep β)} {Inv : Nat → β → Prop} {N : Nat} {Q : β → Shared → Prop}
    (hf : ∀ k r (Q' : ForInStep β → Shared → Prop), k < N → Inv k r → (∀ r', Inv (k + 1) r' → Q' (.yield r') s) → wpAny M A (f k r) Q' E s) (hQ : ∀ r', Inv N r' → Q r' s) : ∀ n k r, k + n = N → Inv k r → wpAny M A (forIn (List.range' k n 1) r f) Q E s
  | 0, k, r, h, hi => by rw [List.range'_zero, List.forIn_nil]; exact wpAny_pure (hQ r (by have e : k = N := h; exact e ▸ hi))
  | n + 1, k, r, h, hi => by
    rw [List.range'_succ, List.forIn_cons]
    exact wpAny_bind (hf k r _ (by omega) hi fun r' hr' => forIn_inv hf hQ n (k + 1) r' (by omega) hr')

theorem joinLetGo_ok {M : Model} {A : Around} {E : Value → Shared → Prop} {s : Shared} {Q : Unit → Shared → Prop} {keep : List Value} (hq : Q () s) : ∀ (taken : List (Value × Option Value)), (∀ p ∈ taken, p.2 = none) → wpAny M A (Bytes.joinLetGo taken keep) Q E s
  | [], _ => wpAny_pure hq
  | (x, w) :: r, h => by
    have : w = none := h (x, w) (.head _)
    subst this
    unfold Bytes.joinLetGo
    exact wpAny_bind (wpAny_letGo (joinLetGo_ok hq r fun p hp => h p (.tail _ hp)))

theorem PVs.get {kind : Nat} {vs : List Value} {ps : List (Array Nat)} (a : PVs kind vs ps) : ∀ {k : Nat} {p : Array Nat}, ps[k]? = some p → ∃ v, vs[k]? = some v ∧ PV kind v p := by
  induction a with
  | nil => intro k p h; simp at h
  | cons hv _ ih =>
    intro k p h
    cases k with
    | zero => simp at h; subst h; exact ⟨_, rfl, hv⟩
    | succ k => simpa using ih (by simpa using h)

theorem flat_bytes_go : ∀ (ps : List (Array Nat)) (k : Nat) (acc : Array UInt8), ((ps.map (·.map (·.toUInt8))).zipIdx k).foldl (fun out (p : Array UInt8 × Nat) => (if p.2 > 0 then out ++ #[] else out) ++ p.1) acc = acc ++ (flat ps).map (·.toUInt8)
  | [], k, acc => by simp [flat]
  | p :: ps, k, acc => by
    rw [List.map_cons, List.zipIdx_cons, List.foldl_cons, flat_bytes_go ps (k + 1)]
    have e : flat (p :: ps) = p ++ flat ps := by
      have := flat_append [p] ps
      simpa [flat] using this
    rw [e]
    have : (if (p.map (·.toUInt8), k).2 > 0 then acc ++ #[] else acc) = acc := by split <;> simp
    rw [this]
    simp
theorem flat_bytes (ps : List (Array Nat)) : Bytes.joined #[] (ps.map (·.map (·.toUInt8))) = (flat ps).map (·.toUInt8) := by
  have := flat_bytes_go ps 0 #[]
  unfold Bytes.joined
  simpa using this
theorem flat_size_go : ∀ (ps : List (Array Nat)) (n : Nat), (ps.map (·.map (·.toUInt8))).foldl (fun (a : Nat) (x : Array UInt8) => a + x.size) n = n + (flat ps).size
  | [], n => by simp [flat]
  | p :: ps, n => by
    rw [List.map_cons, List.foldl_cons, flat_size_go ps]
    have e : flat (p :: ps) = p ++ flat ps := by
      have := flat_append [p] ps
      simpa [flat] using this
    rw [e]; simp; omega

section
variable {prog : Program} {w : World} {A : Around} {s : Shared}
theorem join_bytes : JoinOK prog w 1 := by
  intro A s l e j vs ps hl hj pv hpos hle hflat
  obtain ⟨t, rfl⟩ : ∃ t, j = .bytes #[] t := by
    unfold PV at hj
    rw [if_neg (by decide)] at hj
    obtain ⟨t, rfl⟩ := hj
    exact ⟨t, by simp⟩
  have hlim : lim = 100000 := rfl
  rw [if_neg (show ¬ ((1 : Nat) == 0) = true by decide)]
  refine wpAny_call_entry (T := "bytes") (name := "join") slot_bytes_join (typeIs_bytes _ _ _) entry_bytes_join ?_ (args_bytes_join _ _)
  unfold Builtin.«bytes.join» Bytes.joinM
  refine wpAny_bind (m := selfAndOne _ _) (wpAny_pure ?_)
  dsimp only
  rw [if_pos (by decide)]
  unfold Bytes.joinItems
  refine wpAny_bind (wpAny_bind (wpAny_typeOf (T := "list") ⟨_, hl, rfl⟩ ?_))
  rw [if_pos (by decide)]
  refine wpAny_pure ?_
  refine wpAny_bind (wpAny_seqItems hl rfl ?_)
  dsimp only
  rw [if_pos (by decide)]
  have get : ∀ k p, ps[k]? = some p → ∃ u, vs[k]? = some (Value.bytes (Array.map (fun (n : Nat) => n.toUInt8) p) u) := fun k p hp => by
    obtain ⟨v, hv, q⟩ := pv.get hp
    unfold PV at q
    rw [if_neg (by decide)] at q
    obtain ⟨u, rfl⟩ := q
    exact ⟨u, hv⟩
  have two : (∃ x, vs.toArray = #[x]) ∨ ∃ x y r, vs = x :: y :: r := by
    match vs, pv with
    | [], pv => cases pv; exact absurd hpos (Nat.lt_irrefl 0)
    | [x], _ => exact .inl ⟨x, rfl⟩
    | x :: y :: r, _ => exact .inr ⟨x, y, r, rfl⟩
  rcases two with ⟨x, hx⟩ | ⟨x, y, r, hxy⟩
  · rw [hx]
    have hvs : vs = [x] := by
      have := congrArg Array.toList hx
      simpa using this
    subst hvs
    cases pv with
    | cons hv r =>
      cases r
      have hv' := hv
      unfold PV at hv
      rw [if_neg (by decide)] at hv
      obtain ⟨u, rfl⟩ := hv
      refine wpAny_bind (wpAny_pure ?_)
      rw [if_pos (by decide)]
      refine wpAny_bind (wpAny_rule (wpAny_pure ⟨_, rfl, Kp.rfl' _, ?_⟩))
      have e1 : ∀ p : Array Nat, flat [p] = p := fun p => by simp [flat]
      rw [e1]
      exact hv'
  · subst hxy
    rw [Std.Legacy.Range.forIn_eq_forIn_range']
    have hsz : ([:(x :: y :: r).toArray.size] : Std.Legacy.Range).size = (x :: y :: r).length := by simp [Std.Legacy.Range.size]
    rw [hsz]
    refine wpAny_bind (forIn_inv (N := (x :: y :: r).length) (Inv := fun k r => r.1 = ((ps.take k).map (·.map (·.toUInt8))).toArray ∧ (∀ p ∈ r.2, p.2 = none) ∧ ∀ p ∈ r.2, p.1.onHeap = false) ?_ ?_ _ 0 _ (Nat.zero_add _) ⟨by simp, by simp, by simp⟩)
    · rintro k ⟨r1, r2⟩ Q' hk ⟨h1, h2, h3⟩ hq
      dsimp only at h1 h2 h3
      have hk' : k < ps.length := by rw [← pv.length]; exact hk
      obtain ⟨u, hu⟩ := get k ps[k] (List.getElem?_eq_getElem hk')
      refine wpAny_bind (wpAny_seqItems hl rfl ?_)
      dsimp only
      have hx : (x :: y :: r).toArray.getD k Value.none = .bytes (ps[k].map (·.toUInt8)) u := by
        rw [Array.getD_eq_getD_getElem?]
        simp [hu]
      rw [hx]
      have hany : r2.any (fun x => x.1.onHeap) = false := by
        rw [List.any_eq_false]
        intro p hp
        rw [h3 p hp]; decide
      have hc : (Bytes.Kind.bytes == Bytes.Kind.bytearray || r2.any fun x => x.1.onHeap) = false := by rw [hany]; rfl
      rw [hc]
      simp only [Bool.false_eq_true, if_false]
      rw [takeQuiet_bytes]
      refine wpAny_bind (wpAny_holding (wpAny_pure ?_))
      dsimp only
      refine wpAny_bind (wpAny_seqItems hl rfl ?_)
      dsimp only
      rw [if_neg (by simp)]
      refine wpAny_pure (hq _ ⟨?_, ?_, ?_⟩)
      · rw [h1, ← List.take_append_getElem hk']
        simp [-List.map_take, -List.take_append_getElem]
      · intro p hp
        rcases List.mem_append.mp hp with hp | hp
        · exact h2 p hp
        · rw [List.mem_singleton.mp hp]
      · intro p hp
        rcases List.mem_append.mp hp with hp | hp
        · exact h3 p hp
        · rw [List.mem_singleton.mp hp]; rfl
    · rintro ⟨r1, r2⟩ ⟨h1, h2, h3⟩
      dsimp only at h1 h2 h3
      have e1 : r1.toList = ps.map (·.map (·.toUInt8)) := by
        rw [h1, pv.length, List.take_length]
      refine wpAny_bind (m := Bytes.payload _) (wpAny_pure ?_)
      have hsum : r1.foldl (fun (a : Nat) (x : Array UInt8) => a + x.size) ((#[] : Array UInt8).size * (r1.size - 1)) = (flat ps).size := by
        rw [← Array.foldl_toList, e1, flat_size_go]; simp
      have htl : Bytes.tooLong (r1.foldl (fun (a : Nat) (x : Array UInt8) => a + x.size) ((#[] : Array UInt8).size * (r1.size - 1))) = false := by
        rw [hsum]; exact KBy.tooLong_not (by omega)
      rw [htl]
      simp only [Bool.false_eq_true, if_false]
      rw [e1, flat_bytes]
      refine wpAny_bind (mkBytes_ok (by rw [Array.size_map, sizeLine_eq]; omega) ?_)
      refine wpAny_bind (wpAny_holding (wpAny_point ?_))
      refine wpAny_bind (joinLetGo_ok ?_ r2 h2)
      refine wpAny_pure ⟨_, rfl, Kp.tok _, ?_⟩
      unfold PV
      rw [if_neg (by decide)]
      exact ⟨_, rfl⟩
end
end Mine
open PySem PySem.W PyProof.Rows PySem.Calls
set_option linter.unusedVariables false
set_option maxRecDepth 100000
namespace Mine
open Builtin Builtin.Re

theorem pv_strs {vs : List Value} {ps : List (Array Nat)} (a : PVs 0 vs ps) : ∃ l : List (Str × Tok), vs = strValues l ∧ l.map (·.1) = ps.map Str.mk := by
  induction a with
  | nil => exact ⟨[], rfl, rfl⟩
  | cons hv _ ih =>
    obtain ⟨l, e1, e2⟩ := ih
    unfold PV at hv
    rw [if_pos rfl] at hv
    obtain ⟨t, rfl⟩ := hv
    exact ⟨(⟨_⟩, t) :: l, by rw [e1]; rfl, by simp [e2]⟩
theorem flat_cons (p : Array Nat) (ps : List (Array Nat)) : flat (p :: ps) = p ++ flat ps := by
  have := flat_append [p] ps
  simpa [flat] using this
theorem glued_go : ∀ (ps : List (Array Nat)) (acc : Array Nat), (ps.map Str.mk).foldl (fun (a : Array Nat) (p : Str) => a ++ (⟨#[]⟩ : Str).cps ++ p.cps) acc = acc ++ flat ps
  | [], acc => by simp [flat]
  | p :: ps, acc => by
    rw [List.map_cons, List.foldl_cons, glued_go ps, flat_cons]; simp
theorem glued_flat (ps : List (Array Nat)) : Builtin.Str.glued ⟨#[]⟩ (ps.map Str.mk) = ⟨flat ps⟩ := by
  unfold Builtin.Str.glued
  cases ps with
  | nil => rfl
  | cons p ps =>
    show (⟨_⟩ : Str) = _
    congr 1
    have := glued_go ps p
    rw [flat_cons]
    simpa using this
theorem size_go : ∀ (ps : List (Array Nat)) (n : Nat), (ps.map Str.mk).foldl (fun (a : Nat) (x : Str) => a + x.length + (⟨#[]⟩ : Str).length) n = n + (flat ps).size
  | [], n => by simp [flat]
  | p :: ps, n => by
    rw [List.map_cons, List.foldl_cons, size_go ps, flat_cons]
    have e1 : (⟨p⟩ : Str).length = p.size := rfl
    have e2 : (⟨#[]⟩ : Str).length = 0 := rfl
    rw [e1, e2]; simp; omega

section
variable {prog : Program} {w : World} {A : Around} {s : Shared} {Fs : Addr → Option Obj}
theorem join_str : JoinOK prog w 0 := by
  intro A s l e j vs ps hl hj pv hpos hle hflat
  obtain ⟨t, rfl⟩ : ∃ t, j = .str ⟨#[]⟩ t := by
    unfold PV at hj
    rw [if_pos rfl] at hj
    exact hj
  have hlim : lim = 100000 := rfl
  rw [if_pos (show ((0 : Nat) == 0) = true by decide)]
  obtain ⟨L, rfl, e2⟩ := pv_strs pv
  refine call_meets PySem.F.slot_str_join (typeIs_str _ _ _) PySem.F.entry_str_join (PySem.F.args_str_join_2 _ _) (meets_str_join_list ⟨#[]⟩ t l L ?_) ⟨⟨_, hl, rfl, _, rfl⟩, ?_⟩
  · rw [e2]
    have := size_go ps 0
    have e3 : ((ps.map Str.mk).toArray.foldl (fun (a : Nat) (x : Str) => a + x.length + (⟨#[]⟩ : Str).length) 0) = (flat ps).size := by
      rw [← Array.foldl_toList]; simpa using this
    show Builtin.Str.tooLong ((ps.map Str.mk).toArray.foldl (fun (a : Nat) (x : Str) => a + x.length + (⟨#[]⟩ : Str).length) 0) = false
    rw [e3]
    unfold Builtin.Str.tooLong
    rw [sizeLine_eq]
    exact decide_eq_false (by omega)
  · have fin : ∀ k, PV 0 (.str ⟨flat ps⟩ k) (flat ps) := fun k => ⟨k, rfl⟩
    have gen : (Made.str (Builtin.Str.glued ⟨#[]⟩ (L.map (·.1)))).post (fun v s' => wants (fun v s' => Kp s s' ∧ PV 0 v (flat ps)) noE (.ok (.ret v)) s') s := by
      rw [e2, glued_flat]
      refine ⟨?_, Kp.tok _, fin _⟩
      show (flat ps).size ≤ sizeLine
      rw [sizeLine_eq]; omega
    cases L with
    | nil => exact gen
    | cons p r =>
      cases r with
      | cons q r => exact gen
      | nil =>
        have e3 : ps = [p.1.cps] := by
          cases ps with
          | nil => simp at e2
          | cons a as =>
            cases as with
            | nil =>
              simp at e2
              rw [e2]
            | cons b bs => simp at e2
        subst e3
        have e4 : ∀ p : Array Nat, flat [p] = p := fun p => by simp [flat]
        show Kp s s ∧ PV 0 (.str p.1 p.2) (flat [p.1.cps])
        rw [e4]
        exact ⟨Kp.rfl' _, _, rfl⟩

theorem slot_re_sub : Slot "re.Pattern" "sub" "re.Pattern.sub" :=
  .of (owner := "re.Pattern") (n := "sub") (by rw [typeLookup_type, builtinLookup_eq_fast]; kernel_rfl) (by decide +kernel) (by decide +kernel) (by decide +kernel)
    (by first | exact .inl (by decide +kernel) | exact .inr (by decide +kernel)) (by rw [isSubtype_type]; kernel_rfl)
theorem entry_re_sub : entryFor table "re.Pattern.sub" = some Builtin.«re.Pattern.sub» := entryFor_of_tree (by kernel_rfl)
theorem args_re_sub (a b c : Value) : argsOk "re.Pattern.sub" ⟨[a, b, c], []⟩ := by unfold argsOk; kernel_rfl
theorem type_re_sub : typeOf (.builtin "re.Pattern.sub") = pure (.type "method_descriptor") := by show builtinType _ = _; rw [builtinType_eq_fast]; kernel_rfl
theorem plainAttrs_re : PlainAttrs "re.Pattern" :=
  ⟨⟨"object.__getattribute__", by rw [typeLookup_type, builtinLookup_eq_fast]; kernel_rfl, by decide +kernel⟩, by rw [typeLookup_type, builtinLookup_eq_fast]; kernel_rfl⟩
end
end Mine
open PySem PySem.W PyProof.Rows PySem.Calls
set_option linter.unusedVariables false
set_option maxRecDepth 100000
namespace Mine
open Builtin Builtin.Re

noncomputable def cntW (b : Array UInt8) (c : UInt8) : Option (Nat × Nat) := if (Bytes.window b.size none none).2 - (Bytes.window b.size none none).1 < ((#[c] : Array UInt8).size : Nat) then none else some ((Bytes.window b.size none none).1.toNat, (Bytes.window b.size none none).2.toNat)
noncomputable def cntB (b : Array UInt8) (c : UInt8) : Int := match cntW b c with
  | none => 0
  | some (lo, hi) => ((Bytes.occurrences b #[c] lo hi).length : Nat)
theorem count_tree (b : Array UInt8) (c : UInt8) (t u : Tok) : Builtin.«bytes.count» ⟨[.bytes b t, .bytes #[c] u], []⟩ = (match cntW b c with
  | none => retInt 0
  | some (lo, hi) => retInt ((Bytes.occurrences b #[c] lo hi).length : Nat)) := by kernel_rfl
theorem slot_bytes_count : Slot "bytes" "count" "bytes.count" :=
  .of (owner := "bytes") (n := "count") (by rw [typeLookup_type, builtinLookup_eq_fast]; kernel_rfl) (by decide +kernel) (by decide +kernel) (by decide +kernel)
    (by first | exact .inl (by decide +kernel) | exact .inr (by decide +kernel)) (by rw [isSubtype_type]; kernel_rfl)
theorem entry_bytes_count : entryFor table "bytes.count" = some Builtin.«bytes.count» := entryFor_of_tree (by kernel_rfl)
theorem args_bytes_count (a b : Value) : argsOk "bytes.count" ⟨[a, b], []⟩ := by unfold argsOk; kernel_rfl
theorem type_bytes_count : typeOf (.builtin "bytes.count") = pure (.type "method_descriptor") := by show builtinType _ = _; rw [builtinType_eq_fast]; kernel_rfl

section
variable {prog : Program} {w : World} {A : Around} {s : Shared} {Fs : Addr → Option Obj} {mg mb : Str → Option Value} {P : Addr} {code : Array Nat} {kind : Nat}

theorem count_call {b : Array UInt8} {c : UInt8} {t u : Tok} : wpAny (model prog w) A (call (.builtin "bytes.count") [.bytes b t, .bytes #[c] u]) (fun v s' => Kp s s' ∧ ∃ k, v = .int (cntB b c) k) noE s := by
  refine wpAny_call_entry slot_bytes_count (typeIs_bytes _ _ _) entry_bytes_count ?_ (args_bytes_count _ _)
  rw [count_tree]
  unfold cntB
  cases cntW b c with
  | none => exact fun _ _ _ => ⟨_, rfl, Kp.tok _, _, rfl⟩
  | some p => exact fun _ _ _ => ⟨_, rfl, Kp.tok _, _, rfl⟩

theorem sub_call {txt repl : Value} {text rp : Array Nat} {out : List (Array Nat)} {f : Nat} (J : JoinOK prog w kind) (pt : PatAt Fs P code kind) (kx : ∀ a o, Fs a = some o → s.heap.get? a = some o) (tx : Txt txt text kind) (rx : Txt repl rp kind) (rv : PV kind repl rp)
    (tree : Builtin.«re.Pattern.sub» ⟨[.ref P, repl, txt], []⟩ = (do
      let _ ← holding [repl] (reWholeTarget (.ref P) txt)
      again (.builtin "re.Pattern.sub.loop" ⟨[.ref P, txt, repl, rawInt 0, rawInt 0, rawInt 0, rawInt 0, rawInt 0, .bool false, ← newList [], .bool false], []⟩)))
    (hgo : subGo code text rp f 0 = some out) (hsz : text.size ≤ lim) (hlen : out.length ≤ lim) (hflat : (flat out).size ≤ lim) :
    wpAny (model prog w) A (call (.builtin "re.Pattern.sub") [.ref P, repl, txt]) (fun v s' => Kp s s' ∧ PV kind v (flat out)) noE s := by
  obtain ⟨o, fs, C, oc, items, n, ho, hc, _⟩ := pt.ex
  refine call_meetsIn (S := fun A R s => (∀ a o, Fs a = some o → s.heap.get? a = some o) ∧ ∀ v h' tk, (∀ b o, s.heap.get? b = some o → h'.get? b = some o) → PV kind v (flat out) → R (.ok (.ret v)) { s with heap := h', toks := tk })
    slot_re_sub ⟨o, kx _ _ ho, hc⟩ entry_re_sub (args_re_sub _ _ _) ?_ ⟨kx, fun v h' tk hk hv => ⟨⟨h', tk, rfl, hk⟩, hv⟩⟩
  intro A R s ⟨kx, K⟩
  rw [tree]
  refine wpAny_bind (wpAny_holding (whole_ok pt kx tx fun t _ _ _ _ _ => ?_))
  refine wpAny_bind (wpAny_newList (wpAny_pure ⟨Code.quiet_builtin _ (by decide +kernel), ?_⟩))
  have fresh : s.heap.get? s.heap.objs.size = none := fresh_none _
  refine subloop_ok J pt tx rx rv hsz f 0 A { s with heap := s.heap.push (seqObj "list" #[] 0) } 0 [] [] out 0 (fun a o e => Heap.get?_push_of_some _ (kx a o e)) (fun o e => by rw [kx _ _ e] at fresh; cases fresh) (Heap.get?_push_size _ rfl) .nil hgo (by simpa using hlen) (by simpa [flat] using hflat) fun v h' tk hk hv => ?_
  refine K v h' tk (fun b o e => hk b o (fun q => by rw [q, fresh] at e; cases e) (Heap.get?_push_of_some _ e)) (by simpa [flat] using hv)

end
noncomputable def codeQ : Array Nat := #[14, 8, 1, 2, 4294967295, 1, 1, 34, 0, 16, 34, 28, 22, 0, 4294967295, 7, 11, 13, 7, 21, 16, 34, 16, 92, 0, 15, 8, 6, 16, 92, 2, 15, 2, 0, 1, 16, 34, 1]
noncomputable def code1 : Array Nat := #[14, 4, 0, 1, 1, 6, 1, 16, 46, 1]
noncomputable def code2 : Array Nat := #[14, 9, 4, 1, 2, 16, 10, 16, 13, 0, 7, 7, 16, 13, 16, 10, 15, 18, 5, 16, 10, 15, 13, 11, 16, 13, 5, 5, 0, 16, 10, 1, 15, 2, 0, 1]
noncomputable def subD (code text rp : Array Nat) : Option (Array Nat) :=
  match subGo code text rp (text.size + 2) 0 with
  | some out => bif okLen text.size && (okLen out.length && okLen (flat out).size) then some (flat out) else none
  | none => none
noncomputable def prim8 : List D → Option D
  | [.bytes b, .int d] => match subD codeQ (b.map (·.toNat)) #[] with
    | some o => some (.int (d + cntB (o.map (·.toUInt8)) 40 - cntB (o.map (·.toUInt8)) 41))
    | none => none
  | _ => none
noncomputable def prim9 : List D → Option D
  | [.bytes b] => match subD code1 (b.map (·.toNat)) #[46, 46] with
    | some o => some (.bytes (o.map (·.toUInt8)))
    | none => none
  | _ => none
noncomputable def prim10 : List D → Option D
  | [.str x] => match subD code2 x.cps #[13, 10] with
    | some o => some (.str ⟨o⟩)
    | none => none
  | _ => none
noncomputable def prim (f : Nat) (ds : List D) : Option D := bif Nat.beq f 8 then prim8 ds else bif Nat.beq f 9 then prim9 ds else bif Nat.beq f 10 then prim10 ds else none
end Mine
open PySem PySem.W PyProof.Rows PySem.Calls
set_option linter.unusedVariables false
set_option maxRecDepth 100000
namespace Mine
open Builtin Builtin.Re

noncomputable def fixNames : List (Str × NameKind) := [("data", .local), ("_twin_re_2", .globalImplicit), ("CRLF", .globalImplicit)]
noncomputable def quoteNames : List (Str × NameKind) := [("bindata", .local), ("_twin_re_1", .globalImplicit)]
noncomputable def parenNames : List (Str × NameKind) := [("data", .local), ("depth", .local), ("_quoted", .globalImplicit)]
theorem txt_dots (t : Tok) : Txt (.bytes #[46, 46] t) #[46, 46] 1 := by
  have e : (#[46, 46] : Array UInt8).map (·.toNat) = #[46, 46] := by decide +kernel
  have := txt_bytes #[46, 46] t
  rwa [e] at this
theorem pv_dots (t : Tok) : PV 1 (.bytes #[46, 46] t) #[46, 46] := by
  have e : (#[46, 46] : Array Nat).map (·.toUInt8) = #[46, 46] := by decide +kernel
  unfold PV
  rw [if_neg (by decide), e]
  exact ⟨_, rfl⟩
theorem txt_none (t : Tok) : Txt (.bytes #[] t) #[] 1 := by
  have := txt_bytes #[] t
  simpa using this
theorem pv_none (t : Tok) : PV 1 (.bytes #[] t) #[] := by
  unfold PV
  rw [if_neg (by decide)]
  exact ⟨t, by simp⟩
section
variable {prog : Program} {w : World} {A : Around} {s : Shared} {Fs : Addr → Option Obj} {mg mb : Str → Option Value}

theorem subD_out {code text rp o : Array Nat} (h : subD code text rp = some o) : ∃ out, subGo code text rp (text.size + 2) 0 = some out ∧ flat out = o ∧ text.size ≤ lim ∧ out.length ≤ lim ∧ (flat out).size ≤ lim := by
  unfold subD at h
  split at h
  · rename_i out ho
    cases hc : okLen text.size && (okLen out.length && okLen (flat out).size) <;> rw [hc] at h <;> cases h
    simp only [Bool.and_eq_true] at hc
    exact ⟨out, ho, rfl, okLen_le hc.1, okLen_le hc.2.1, okLen_le hc.2.2⟩
  · cases h
theorem rd_global {M : Model} {E : Value → Shared → Prop} {y : Str} {p : Pos} {v : Value} {env : Env} {Q : Value → Shared → Prop} (ok : EnvOK env) (G : GF Fs mg mb s.heap) (hk : env.kindOf y = some .globalImplicit) (hm : mg y = some v) (hd : (y == ("__debug__" : Str)) = false) (h : Q v s) :
    wpAny M A (eval (.Name y p) env) Q E s :=
  Name_function_global ok.kind hk (loadGlobal_global (by rw [ok.glob]; exact G.g) hm h) hd
theorem rd_local {M : Model} {E : Value → Shared → Prop} {s₀ : Shared} {m : Str → Option Value} {y : Str} {p : Pos} {v : Value} {env : Env} {Q : Value → Shared → Prop} (i : InCall s₀ env.locals m s) (ok : EnvOK env) (hk : env.kindOf y = some .local) (hm : m y = some v) (hd : (y == ("__debug__" : Str)) = false) (h : Q v s) :
    wpAny M A (eval (.Name y p) env) Q E s := wpAny_Name (wpAny_loadName_local ok.kind hk i.ns hm h) hd

theorem kp_of {s₀ s : Shared} {L : Addr} {m : Str → Option Value} (i : InCall s₀ L m s) : Kp s₀ s := let ⟨h', tk, e, hk⟩ := i.done; ⟨h', tk, e, hk⟩

theorem meth_sub {P : Addr} {code : Array Nat} {kind : Nat} {env : Env} {o : Expr} {p2 p5 : Pos} {args : List Expr} {pl : Sem Bool} {Q : Value × List Value → Shared → Prop} {M : Model} {E : Value → Shared → Prop} (pt : PatAt Fs P code kind) (kx : ∀ a o, Fs a = some o → s.heap.get? a = some o)
    (h : Q (.builtin "re.Pattern.sub", [.ref P]) s) : wpAny M A (getMethod (.ref P) "sub" pl) Q E s := by
  obtain ⟨ob, fs, C, oc, items, n, ho, hc, hd, _⟩ := pt.ex
  exact getMethod_builtin ⟨ob, kx _ _ ho, hc⟩ plainAttrs_re slot_re_sub type_re_sub (fun a e => by cases e; exact ⟨ob, kx _ _ ho, hd⟩) h
theorem fix_ok {fd : FuncData} {p1 p2 p3 p4 p5 p6 : Pos} {tk : Tok} (DA : DefAt Fs (fadr 10) fd [.Return (some (.Call (.Attribute (.Name "_twin_re_2" p1) "sub" p2) [.Name "CRLF" p3, .Name "data" p4] [] p5)) p6])
    (hn : fd.scope.names = fixNames) (hbind : ∀ v, BindOK Fs prog w fd [v] [("data", v)]) (hm : ∀ env, MC (.Name "_twin_re_2" p1) "sub" p2 [.Name "CRLF" p3, .Name "data" p4] p5 env)
    (h1 : mg "_twin_re_2" = some (.ref 81)) (h2 : mg "CRLF" = some (.str (PySem.Str.ofString "\r\n") tk)) (pt : PatAt Fs 81 code2 0) : PrimOK prog w Fs mg mb prim 10 := by
  intro A X ds d vs s ak h G hX r
  replace h : prim10 ds = some d := h
  unfold prim10 at h
  split at h
  · rename_i x
    cases hs : subD code2 x.cps #[13, 10] with
    | none => rw [hs] at h; cases h
    | some o =>
      rw [hs] at h; cases h
      obtain ⟨out, hgo, rfl, b1, b2, b3⟩ := subD_out hs
      cases r with
      | cons rx r =>
        cases r
        obtain ⟨t, rfl⟩ := rx.str_inv
        refine call_at DA ak.aw G (hbind _) (by rw [hn]; intro y hy; rw [List.mem_singleton.mp hy]; rfl) fun s₁ i => ?_
        have ok : EnvOK (callEnv fd s.heap.objs.size (fadr 10)) := ⟨DA.kind, DA.glob, DA.blt⟩
        have G₁ := G.ext i.keep
        have kk := fun y k (h : fd.scope.names.lookup y = some k) => (show (callEnv fd s.heap.objs.size (fadr 10)).kindOf y = some k from h)
        obtain ⟨pl, he⟩ := hm (callEnv fd s.heap.objs.size (fadr 10))
        refine wpAny_execs_cons (wpAny_Return_some (MethodCall_ (pl := pl) (rd_global ok G₁ (kk _ _ (by rw [hn]; rfl)) h1 (by decide) ?_) he))
        refine meth_sub (env := callEnv fd s.heap.objs.size (fadr 10)) (o := .Name "x" p1) (p2 := p1) (p5 := p1) (args := []) pt G₁.kx ?_
        refine callWith_method1 (args_cons (rd_global ok G₁ (kk _ _ (by rw [hn]; rfl)) h2 (by decide) (args_cons (rd_local i ok (kk _ _ (by rw [hn]; rfl)) rfl (by decide) (args_nil ?_)) rfl)) rfl)
        refine mono (sub_call join_str pt G₁.kx (txt_str x t) (txt_str (PySem.Str.ofString "\r\n") tk) ⟨tk, rfl⟩ (sub_tree_str 81 tk t x) (text := x.cps) (rp := #[13, 10]) hgo b1 b2 b3) fun v s₂ h₂ => ?_
        obtain ⟨k, hv⟩ := h₂
        unfold PV at hv
        rw [if_pos rfl] at hv
        obtain ⟨u, rfl⟩ := hv
        exact ⟨(kp_of i).trans' k, .str _ _⟩
  · cases h
theorem quote_ok {fd : FuncData} {p1 p2 p3 p4 p5 p6 : Pos} {c3 : Nat} (DA : DefAt Fs (fadr 9) fd [.Return (some (.Call (.Attribute (.Name "_twin_re_1" p1) "sub" p2) [.Constant (.bytes [46, 46]) c3 p3, .Name "bindata" p4] [] p5)) p6])
    (hn : fd.scope.names = quoteNames) (hbind : ∀ v, BindOK Fs prog w fd [v] [("bindata", v)]) (hm : ∀ env, MC (.Name "_twin_re_1" p1) "sub" p2 [.Constant (.bytes [46, 46]) c3 p3, .Name "bindata" p4] p5 env)
    (h1 : mg "_twin_re_1" = some (.ref 76)) (pt : PatAt Fs 76 code1 1) : PrimOK prog w Fs mg mb prim 9 := by
  intro A X ds d vs s ak h G hX r
  replace h : prim9 ds = some d := h
  unfold prim9 at h
  split at h
  · rename_i b
    cases hs : subD code1 (b.map (·.toNat)) #[46, 46] with
    | none => rw [hs] at h; cases h
    | some o =>
      rw [hs] at h; cases h
      obtain ⟨out, hgo, rfl, b1, b2, b3⟩ := subD_out hs
      cases r with
      | cons rx r =>
        cases r
        obtain ⟨t, rfl⟩ := rx.bytes_inv
        refine call_at DA ak.aw G (hbind _) (by rw [hn]; intro y hy; rw [List.mem_singleton.mp hy]; rfl) fun s₁ i => ?_
        have ok : EnvOK (callEnv fd s.heap.objs.size (fadr 9)) := ⟨DA.kind, DA.glob, DA.blt⟩
        have G₁ := G.ext i.keep
        have kk := fun y k (h : fd.scope.names.lookup y = some k) => (show (callEnv fd s.heap.objs.size (fadr 9)).kindOf y = some k from h)
        obtain ⟨pl, he⟩ := hm (callEnv fd s.heap.objs.size (fadr 9))
        refine wpAny_execs_cons (wpAny_Return_some (MethodCall_ (pl := pl) (rd_global ok G₁ (kk _ _ (by rw [hn]; rfl)) h1 (by decide) ?_) he))
        refine meth_sub (env := callEnv fd s.heap.objs.size (fadr 9)) (o := .Name "x" p1) (p2 := p1) (p5 := p1) (args := []) pt G₁.kx ?_
        refine callWith_method1 (args_cons (mkTB (args_cons (rd_local (InCall_kp i (Kp.tok _)) ok (kk _ _ (by rw [hn]; rfl)) rfl (by decide) (args_nil ?_)) rfl)) rfl)
        refine mono (sub_call (s := { s₁ with toks := s₁.toks + 1 }) join_bytes pt G₁.kx (txt_bytes b t) (txt_dots s₁.toks) (pv_dots _) (sub_tree_bytes 76 _ t b) (text := b.map (·.toNat)) (rp := #[46, 46]) hgo b1 b2 b3) fun v s₂ h₂ => ?_
        obtain ⟨k, hv⟩ := h₂
        unfold PV at hv
        rw [if_neg (by decide)] at hv
        obtain ⟨u, rfl⟩ := hv
        exact ⟨((kp_of i).trans' (Kp.tok _)).trans' k, .bytes _ _⟩
  · cases h

set_option maxHeartbeats 2000000 in
theorem paren_ok {fd : FuncData} {p1 p2 p3 p4 p5 p6 p7 p8 p9 p10 p11 p12 p13 p14 p15 p16 p17 p18 p19 : Pos} {c3 c11 c16 : Nat} (DA : DefAt Fs (fadr 8) fd [.Assign [.Name "data" p7] (.Call (.Attribute (.Name "_quoted" p1) "sub" p2) [.Constant (.bytes []) c3 p3, .Name "data" p4] [] p5) p6,
      .Return (some (.BinOp (.BinOp (.Name "depth" p8) .Add (.Call (.Attribute (.Name "data" p9) "count" p10) [.Constant (.bytes [40]) c11 p11] [] p12) p13) .Sub (.Call (.Attribute (.Name "data" p14) "count" p15) [.Constant (.bytes [41]) c16 p16] [] p17) p18)) p19])
    (hn : fd.scope.names = parenNames) (hbind : ∀ v u, BindOK Fs prog w fd [v, u] [("data", v), ("depth", u)]) (hm : ∀ env, MC (.Name "_quoted" p1) "sub" p2 [.Constant (.bytes []) c3 p3, .Name "data" p4] p5 env)
    (hm2 : ∀ env, MC (.Name "data" p9) "count" p10 [.Constant (.bytes [40]) c11 p11] p12 env) (hm3 : ∀ env, MC (.Name "data" p14) "count" p15 [.Constant (.bytes [41]) c16 p16] p17 env)
    (h1 : mg "_quoted" = some (.ref 63)) (pt : PatAt Fs 63 codeQ 1) : PrimOK prog w Fs mg mb prim 8 := by
  intro A X ds d vs s ak h G hX r
  replace h : prim8 ds = some d := h
  unfold prim8 at h
  split at h
  · rename_i b dd
    cases hs : subD codeQ (b.map (·.toNat)) #[] with
    | none => rw [hs] at h; cases h
    | some o =>
      rw [hs] at h; cases h
      obtain ⟨out, hgo, rfl, b1, b2, b3⟩ := subD_out hs
      cases r with
      | cons rx r =>
        cases r with
        | cons ry r =>
          cases r
          obtain ⟨t, rfl⟩ := rx.bytes_inv
          obtain ⟨t2, rfl⟩ := ry.int_inv
          refine call_at DA ak.aw G (hbind _ _) (by rw [hn]; intro y hy; rcases List.mem_cons.mp hy with rfl | hy; exact rfl; rw [List.mem_singleton.mp hy]; rfl) fun s₁ i => ?_
          have ok : EnvOK (callEnv fd s.heap.objs.size (fadr 8)) := ⟨DA.kind, DA.glob, DA.blt⟩
          have G₁ := G.ext i.keep
          have kk := fun y k (h : fd.scope.names.lookup y = some k) => (show (callEnv fd s.heap.objs.size (fadr 8)).kindOf y = some k from h)
          obtain ⟨pl, he⟩ := hm (callEnv fd s.heap.objs.size (fadr 8))
          obtain ⟨pl2, he2⟩ := hm2 (callEnv fd s.heap.objs.size (fadr 8))
          obtain ⟨pl3, he3⟩ := hm3 (callEnv fd s.heap.objs.size (fadr 8))
          refine wpAny_execs_cons (wpAny_Assign_Name (MethodCall_ (pl := pl) (rd_global ok G₁ (kk _ _ (by rw [hn]; rfl)) h1 (by decide) ?_) he))
          refine meth_sub (env := callEnv fd s.heap.objs.size (fadr 8)) (o := .Name "x" p1) (p2 := p1) (p5 := p1) (args := []) pt G₁.kx ?_
          refine callWith_method1 (args_cons (mkTB (args_cons (rd_local (InCall_kp i (Kp.tok _)) ok (kk _ _ (by rw [hn]; rfl)) rfl (by decide) (args_nil ?_)) rfl)) rfl)
          refine mono (sub_call (s := { s₁ with toks := s₁.toks + 1 }) join_bytes pt G₁.kx (txt_bytes b t) (txt_none s₁.toks) (pv_none _) (sub_tree_none 63 _ t b) (text := b.map (·.toNat)) (rp := #[]) hgo b1 b2 b3) fun v s₂ h₂ => ?_
          obtain ⟨k, hv⟩ := h₂
          unfold PV at hv
          rw [if_neg (by decide)] at hv
          obtain ⟨u, rfl⟩ := hv
          have i₂ := InCall_kp (InCall_kp i (Kp.tok (s₁.toks + 1))) k
          refine st_in i₂ ok.kind (kk _ _ (by rw [hn]; rfl)) fun s₃ i₃ => ?_
          refine wpAny_execs_cons (wpAny_Return_some (wpAny_BinOp (wpAny_BinOp (rd_local i₃ ok (kk _ _ (by rw [hn]; rfl)) (by rw [if_neg (by decide)]; rfl) (by decide) ?_))))
          refine MethodCall_ (pl := pl2) (rd_local i₃ ok (kk _ _ (by rw [hn]; rfl)) (by rw [if_pos rfl]) (by decide) ?_) he2
          refine getMethod_builtin (typeIs_bytes _ _ _) FB.plainAttrs_bytes slot_bytes_count type_bytes_count (fun _ e => nomatch e) ?_
          refine callWith_method1 (args_cons (mkTB (args_nil ?_)))
          refine mono count_call fun v s₄ h₄ => ?_
          obtain ⟨k₄, u₄, rfl⟩ := h₄
          refine PySem.P.add_int ?_
          have i₅ := InCall_kp (InCall_kp (InCall_kp i₃ (Kp.tok (s₃.toks + 1))) k₄) (Kp.tok (s₄.toks + 1))
          refine MethodCall_ (pl := pl3) (rd_local i₅ ok (kk _ _ (by rw [hn]; rfl)) (by rw [if_pos rfl]) (by decide) ?_) he3
          refine getMethod_builtin (typeIs_bytes _ _ _) FB.plainAttrs_bytes slot_bytes_count type_bytes_count (fun _ e => nomatch e) ?_
          refine callWith_method1 (args_cons (mkTB (args_nil ?_)))
          refine mono count_call fun v s₆ h₆ => ?_
          obtain ⟨k₆, u₆, rfl⟩ := h₆
          refine PySem.P.sub_int ?_
          exact ⟨kp_of (InCall_kp (InCall_kp (InCall_kp i₅ (Kp.tok _)) k₆) (Kp.tok _)), .int _ _⟩
  · cases h
end
end Mine
open PySem PySem.W PyProof.Rows PySem.Calls
set_option linter.unusedVariables false
set_option maxRecDepth 100000
namespace Mine
open Builtin Builtin.Re
noncomputable def mk1 (text : Array Nat) (s : Nat) (first : Bool) (seen : Sre.Seen) : Sre.M :=
  { code := code1, text, lim := text.size, start := s, lastStart := text.size, wholeText := false, mustAdvance := false, pc := 5, pos := s, handed := s, outermost := first, marks := #[], lastmark := -1, lastindex := -1, loops := #[], inner := none,
    frames := [{ wait := .nextStart, pc := 5, pos := s, outermost := first }], weight := 1, answer := none, seen, outcome := none }
noncomputable def bol (text : Array Nat) (s : Nat) : Bool := s == 0 || text.getD (s - 1) 0 == 10

theorem at1 (text : Array Nat) (s : Nat) (first : Bool) (seen : Sre.Seen) : (mk1 text s first seen).step = if bol text s = true then { mk1 text s first ((seen.add 6).add 44) with pc := 7 } else { mk1 text s first ((seen.add 6).add 44) with answer := some false } := by rfl
theorem back1 (text : Array Nat) (s : Nat) (first : Bool) (seen : Sre.Seen) (pc : Nat) : ({ mk1 text s first seen with pc := pc, answer := some false } : Sre.M).step = if s < text.size then mk1 text (s + 1) false seen else { mk1 text s first seen with frames := [], weight := 0, answer := some false } := by rfl

theorem lit1 (text : Array Nat) (s : Nat) (first : Bool) (seen : Sre.Seen) : ({ mk1 text s first seen with pc := 7 } : Sre.M).step = if text.size ≤ s then { mk1 text s first (seen.add 16) with pc := 7, answer := some false }
    else if (text.getD s 0 == 46) = true then { mk1 text s first (seen.add 16) with pc := 9, pos := s + 1 } else { mk1 text s first (seen.add 16) with pc := 7, answer := some false } := by
  show (if s ≥ text.size then _ else match (Except.ok (text.getD s 0 == 46, seen.add 16) : Except String (Bool × Sre.Seen)) with | .error why => _ | .ok (false, seen) => _ | .ok (true, seen) => _) = _
  by_cases c : text.size ≤ s
  · rw [if_pos c, if_pos c]; rfl
  · rw [if_neg c, if_neg c]
    cases h : text.getD s 0 == 46 <;> rfl
theorem suc1 (text : Array Nat) (s : Nat) (first : Bool) (seen : Sre.Seen) : ({ mk1 text s first seen with pc := 9, pos := s + 1 } : Sre.M).step = { mk1 text s first (seen.add 1) with pc := 9, pos := s + 1, handed := s + 1, answer := some true } := by
  cases first <;> rfl
theorem yes1 (text : Array Nat) (s : Nat) (first : Bool) (seen : Sre.Seen) : ({ mk1 text s first seen with pc := 9, pos := s + 1, handed := s + 1, answer := some true } : Sre.M).step.step = { mk1 text s first seen with frames := [], weight := 0, pc := 5, pos := s, handed := s + 1, answer := some true, outcome := some .matched } := by
  cases first <;> rfl
theorem end1 (text : Array Nat) (s : Nat) (first : Bool) (seen : Sre.Seen) : ({ mk1 text s first seen with frames := [], weight := 0, answer := some false } : Sre.M).step.outcome = some .failed := by rfl

theorem run1 {m : Sre.M} (h : m.outcome = none) (k : Nat) : m.runFor (k + 1) = m.step.runFor k := by
  rw [runFor_succ, if_neg (by rw [h]; simp)]
theorem skip1 (text : Array Nat) (s : Nat) (first : Bool) (seen : Sre.Seen) (hs : s < text.size) (h : (bol text s && text.getD s 0 == 46) = false) : ∃ k seen', k ≤ 3 ∧ ∀ j, (mk1 text s first seen).runFor (k + j) = (mk1 text (s + 1) false seen').runFor j := by
  cases hb : bol text s with
  | false =>
    refine ⟨2, (seen.add 6).add 44, by omega, fun j => ?_⟩
    rw [show 2 + j = j + 1 + 1 by omega, run1 rfl, at1, hb, if_neg (by decide)]
    rw [run1 rfl]
    have := back1 text s first ((seen.add 6).add 44) 5
    rw [if_pos hs] at this
    exact congrArg (fun m => Sre.M.runFor j m) this
  | true =>
    rw [hb, Bool.true_and] at h
    refine ⟨3, ((seen.add 6).add 44).add 16, by omega, fun j => ?_⟩
    rw [show 3 + j = j + 1 + 1 + 1 by omega, run1 rfl, at1, hb, if_pos rfl, run1 rfl, lit1, if_neg (by omega), h, if_neg (by decide), run1 rfl]
    have := back1 text s first (((seen.add 6).add 44).add 16) 7
    rw [if_pos hs] at this
    exact congrArg (fun m => Sre.M.runFor j m) this
theorem hit1 (text : Array Nat) (s : Nat) (first : Bool) (seen : Sre.Seen) (hs : s < text.size) (h : (bol text s && text.getD s 0 == 46) = true) : ∀ j, ((mk1 text s first seen).runFor (5 + j)).outcome = some .matched ∧ ((mk1 text s first seen).runFor (5 + j)).start = s ∧ ((mk1 text s first seen).runFor (5 + j)).handed = s + 1 := by
  rw [Bool.and_eq_true] at h
  intro j
  have e : (mk1 text s first seen).runFor (5 + j) = { mk1 text s first ((((seen.add 6).add 44).add 16).add 1) with frames := [], weight := 0, pc := 5, pos := s, handed := s + 1, answer := some true, outcome := some .matched } := by
    rw [show 5 + j = j + 1 + 1 + 1 + 1 + 1 by omega, run1 rfl, at1, if_pos h.1, run1 rfl, lit1, if_neg (by omega), if_pos h.2, run1 rfl, suc1, run1 rfl, run1 (by cases first <;> rfl), yes1, runFor_done rfl]
  rw [e]; exact ⟨rfl, rfl, rfl⟩
theorem over1 (text : Array Nat) (first : Bool) (seen : Sre.Seen) : ∀ j, ((mk1 text text.size first seen).runFor (4 + j)).outcome = some .failed := by
  intro j
  cases hb : bol text text.size with
  | false =>
    rw [show 4 + j = j + 1 + 1 + 1 + 1 by omega, run1 rfl, at1, hb, if_neg (by decide), run1 rfl]
    have := back1 text text.size first ((seen.add 6).add 44) 5
    rw [if_neg (Nat.lt_irrefl _)] at this
    rw [show ({ mk1 text text.size first ((seen.add 6).add 44) with answer := some false } : Sre.M).step = _ from this, run1 rfl]
    rw [runFor_done (by rw [end1]; rfl)]
    exact end1 _ _ _ _
  | true =>
    rw [show 4 + j = j + 1 + 1 + 1 + 1 by omega, run1 rfl, at1, hb, if_pos rfl, run1 rfl, lit1, if_pos (Nat.le_refl _), run1 rfl]
    have := back1 text text.size first (((seen.add 6).add 44).add 16) 7
    rw [if_neg (Nat.lt_irrefl _)] at this
    rw [this, run1 rfl, runFor_done (by rw [end1]; rfl)]
    exact end1 _ _ _ _
end Mine
open PySem PySem.W PyProof.Rows PySem.Calls
set_option linter.unusedVariables false
set_option maxRecDepth 100000
namespace Mine
open Builtin Builtin.Re
noncomputable def nx (hit : Nat → Option Nat) : Nat → Nat → Option (Nat × Nat)
  | 0, _ => none
  | d + 1, s => match hit s with
    | some e => some (s, e)
    | none => nx hit d (s + 1)
noncomputable def Finds (hit : Nat → Option Nat) (code text : Array Nat) : Prop := ∀ s, s ≤ text.size → findR code text s = some (nx hit (text.size - s) s)
noncomputable def subL (text : Array Nat) (rp : List Nat) (hit : Nat → Option Nat) : Nat → Nat → List Nat
  | 0, _ => []
  | d + 1, s => if s < text.size then match hit s with
      | some e => rp ++ subL text rp hit d e
      | none => text.getD s 0 :: subL text rp hit d (s + 1)
    else []

theorem flat_nil : flat [] = #[] := rfl
theorem extract_cons (text : Array Nat) (s b : Nat) (h : s < b) (hb : b ≤ text.size) : (text.extract s b).toList = text.getD s 0 :: (text.extract (s + 1) b).toList := by
  rw [Array.toList_extract, Array.toList_extract, List.extract_eq_take_drop, List.extract_eq_take_drop]
  have hs : s < text.toList.length := by rw [Array.length_toList]; omega
  rw [List.drop_eq_getElem_cons hs, show b - s = (b - (s + 1)) + 1 from (Nat.succ_pred_eq_of_pos (Nat.sub_pos_of_lt h)).symm, List.take_succ_cons]
  congr 1
  rw [Array.getD_eq_getD_getElem?, Array.getElem?_eq_getElem (by omega)]
  rfl

theorem sub_le {n s e d : Nat} (h : n - s ≤ d + 1) (hs : s < e) : n - e ≤ d := by omega
theorem subGo_ok {code text rp : Array Nat} {hit : Nat → Option Nat} (F : Finds hit code text) (he : ∀ s e, s < text.size → hit s = some e → s < e ∧ e ≤ text.size) : ∀ (d s f : Nat), s ≤ text.size → text.size - s ≤ d → d < f →
    ∃ out, subGo code text rp f s = some out ∧ (flat out).toList = subL text rp.toList hit d s ∧ out.length ≤ 2 * d + 1 := by
  intro d
  induction d with
  | zero =>
    intro s f hs hd hf
    obtain ⟨f, rfl⟩ : ∃ g, f = g + 1 := ⟨f - 1, by omega⟩
    have e : s = text.size := by omega
    have hF := F s hs
    rw [show text.size - s = 0 by omega] at hF
    refine ⟨[], ?_, rfl, by simp⟩
    unfold subGo
    rw [hF]
    show some (if s < text.size then _ else _) = _
    rw [if_neg (by omega)]
  | succ d ih =>
    intro s f hs hd hf
    obtain ⟨f, rfl⟩ : ∃ g, f = g + 1 := ⟨f - 1, by omega⟩
    by_cases c : s < text.size
    · have hF := F s hs
      rw [show text.size - s = (text.size - (s + 1)) + 1 by omega] at hF
      cases hh : hit s with
      | some e =>
        obtain ⟨h1, h2⟩ := he s e c hh
        obtain ⟨out, ho, hl, hn⟩ := ih e f h2 (sub_le hd h1) (Nat.lt_of_succ_lt_succ hf)
        refine ⟨rp :: out, ?_, ?_, by simp only [List.length_cons]; omega⟩
        · unfold subGo
          have : nx hit (text.size - (s + 1) + 1) s = some (s, e) := by unfold nx; rw [hh]
          rw [hF, this]
          have hc : (Nat.ble s s && (Nat.blt s e && Nat.ble e text.size)) = true := by
            rw [Bool.and_eq_true, Bool.and_eq_true]
            exact ⟨Nat.ble_eq_true_of_le (Nat.le_refl _), Nat.ble_eq_true_of_le h1, Nat.ble_eq_true_of_le h2⟩
          show (bif (Nat.ble s s && (Nat.blt s e && Nat.ble e text.size)) then (match subGo code text rp f e with | some r => some ((if s < s then [text.extract s s] else []) ++ rp :: r) | none => none) else none) = _
          rw [hc, ho, if_neg (Nat.lt_irrefl _)]
          rfl
        · rw [flat_cons, Array.toList_append, hl]
          show _ = (if s < text.size then (match hit s with | some e => rp.toList ++ subL text rp.toList hit d e | none => text.getD s 0 :: subL text rp.toList hit d (s + 1)) else [])
          rw [if_pos c, hh]
      | none =>
        have hF2 := F (s + 1) c
        have e : nx hit (text.size - (s + 1) + 1) s = nx hit (text.size - (s + 1)) (s + 1) := by
          show (match hit s with | some e => some (s, e) | none => nx hit (text.size - (s + 1)) (s + 1)) = _
          rw [hh]
        rw [e] at hF
        obtain ⟨out, ho, hl, hn⟩ := ih (s + 1) (f + 1) c (sub_le hd (Nat.lt_succ_self s)) (Nat.lt_of_succ_lt hf)
        have goal : subL text rp.toList hit (d + 1) s = text.getD s 0 :: subL text rp.toList hit d (s + 1) := by
          show (if s < text.size then (match hit s with | some e => rp.toList ++ subL text rp.toList hit d e | none => text.getD s 0 :: subL text rp.toList hit d (s + 1)) else []) = _
          rw [if_pos c, hh]
        rw [goal, ← hl]
        unfold subGo at ho ⊢
        rw [hF2] at ho
        rw [hF]
        revert ho
        rcases nx hit (text.size - (s + 1)) (s + 1) with _ | ⟨b, e⟩
        · intro ho
          have ho : some (if s + 1 < text.size then [text.extract (s + 1) text.size] else []) = some out := ho
          refine ⟨[text.extract s text.size], ?_, ?_, by simp only [List.length_cons, List.length_nil]; omega⟩
          · show some (if s < text.size then _ else _) = _
            rw [if_pos c]
          · injection ho with ho
            rw [← ho, flat_cons, flat_nil, Array.append_empty, extract_cons _ _ _ c (Nat.le_refl _)]
            by_cases c2 : s + 1 < text.size
            · rw [if_pos c2, flat_cons, flat_nil, Array.append_empty]
            · rw [if_neg c2, flat_nil, Array.toList_extract, List.extract_eq_take_drop, List.drop_eq_nil_of_le (by rw [Array.length_toList]; omega), List.take_nil]
        · intro ho
          have ho : (bif (Nat.ble (s + 1) b && (Nat.blt b e && Nat.ble e text.size)) then (match subGo code text rp f e with | some r => some ((if s + 1 < b then [text.extract (s + 1) b] else []) ++ rp :: r) | none => none) else none) = some out := ho
          have hgoal : ∀ out', (bif (Nat.ble s b && (Nat.blt b e && Nat.ble e text.size)) then (match subGo code text rp f e with | some r => some ((if s < b then [text.extract s b] else []) ++ rp :: r) | none => none) else none) = some out' → (flat out').toList = text.getD s 0 :: (flat out).toList → out'.length ≤ 2 * (d + 1) + 1 → ∃ out', (match (some (some (b, e)) : Option (Option (Nat × Nat))) with
              | some none => some (if s < text.size then [text.extract s text.size] else [])
              | some (some (b, e)) => bif Nat.ble s b && (Nat.blt b e && Nat.ble e text.size) then
                  match subGo code text rp f e with
                  | some r => some ((if s < b then [text.extract s b] else []) ++ rp :: r)
                  | none => none
                else none
              | none => none) = some out' ∧ (flat out').toList = text.getD s 0 :: (flat out).toList ∧ out'.length ≤ 2 * (d + 1) + 1 := fun out' h1 h2 h3 => ⟨out', h1, h2, h3⟩
          cases hc : (Nat.ble (s + 1) b && (Nat.blt b e && Nat.ble e text.size)) with
          | false => rw [hc] at ho; cases ho
          | true =>
            rw [hc] at ho
            rw [Bool.and_eq_true] at hc
            have hb : s + 1 ≤ b := Nat.le_of_ble_eq_true hc.1
            have hbe := hc.2
            rw [Bool.and_eq_true] at hbe
            have h3 : b < e := Nat.le_of_ble_eq_true hbe.1
            have h4 : e ≤ text.size := Nat.le_of_ble_eq_true hbe.2
            have hc' : (Nat.ble s b && (Nat.blt b e && Nat.ble e text.size)) = true := by
              rw [Bool.and_eq_true]; exact ⟨Nat.ble_eq_true_of_le (by omega), hc.2⟩
            revert ho
            cases hr : subGo code text rp f e with
            | none => intro ho; cases ho
            | some r =>
              intro ho
              have ho : some ((if s + 1 < b then [text.extract (s + 1) b] else []) ++ rp :: r) = some out := ho
              injection ho with ho
              refine ⟨[text.extract s b] ++ rp :: r, ?_, ?_, ?_⟩
              · show (bif (Nat.ble s b && (Nat.blt b e && Nat.ble e text.size)) then _ else none) = _
                rw [hc', hr]
                show some ((if s < b then [text.extract s b] else []) ++ rp :: r) = _
                rw [if_pos (by omega)]
              · rw [← ho]
                by_cases c2 : s + 1 < b
                · rw [if_pos c2, flat_append, flat_append, flat_cons, flat_nil, Array.append_empty, flat_cons (text.extract (s + 1) b), flat_nil, Array.append_empty, Array.toList_append, Array.toList_append, extract_cons _ _ _ (by omega) (by omega)]
                  rfl
                · rw [if_neg c2, flat_append, flat_cons, flat_nil, Array.append_empty, Array.toList_append, extract_cons _ _ _ (by omega) (by omega)]
                  have : (text.extract (s + 1) b).toList = [] := by
                    rw [Array.toList_extract, List.extract_eq_take_drop, show b - (s + 1) = 0 by omega, List.take_zero]
                  rw [this]; rfl
              · rw [← ho] at hn
                simp only [List.length_append, List.length_cons, List.length_nil] at hn ⊢
                omega
    · obtain ⟨out, ho, hl, hn⟩ := ih s (f + 1) hs (by omega) (by omega)
      refine ⟨out, ho, ?_, by omega⟩
      rw [hl]
      cases d <;> simp [subL, c]
noncomputable def hit1f (text : Array Nat) (s : Nat) : Option Nat := if (bol text s && text.getD s 0 == 46) = true then some (s + 1) else none
theorem go1 (text : Array Nat) : ∀ (d s : Nat) (first : Bool) (seen : Sre.Seen), s + d = text.size → ∃ k, k ≤ 3 * d + 5 ∧ ∀ j,
    match nx (hit1f text) d s with
    | some (b, e) => ((mk1 text s first seen).runFor (k + j)).outcome = some .matched ∧ ((mk1 text s first seen).runFor (k + j)).start = b ∧ ((mk1 text s first seen).runFor (k + j)).handed = e
    | none => ((mk1 text s first seen).runFor (k + j)).outcome = some .failed
  | 0, s, first, seen, h => by
    obtain rfl : s = text.size := by omega
    exact ⟨4, by omega, over1 text first seen⟩
  | d + 1, s, first, seen, h => by
    cases hb : (bol text s && text.getD s 0 == 46) with
    | true =>
      refine ⟨5, by omega, fun j => ?_⟩
      have : nx (hit1f text) (d + 1) s = some (s, s + 1) := by unfold nx hit1f; rw [hb, if_pos rfl]
      rw [this]
      exact hit1 text s first seen (by omega) hb j
    | false =>
      obtain ⟨k, seen', hk, hr⟩ := skip1 text s first seen (by omega) hb
      obtain ⟨k', hk', hr'⟩ := go1 text d (s + 1) false seen' (by omega)
      refine ⟨k + k', by omega, fun j => ?_⟩
      have : nx (hit1f text) (d + 1) s = nx (hit1f text) d (s + 1) := by
        show (match hit1f text s with | some e => some (s, e) | none => nx (hit1f text) d (s + 1)) = _
        have : hit1f text s = none := by unfold hit1f; rw [hb]; rfl
        rw [this]
      rw [this, Nat.add_assoc, hr]
      exact hr' j
theorem findR_of {code text : Array Nat} {s : Nat} {r : Option (Nat × Nat)} {n : Nat} (h : ∀ m, n ≤ m → match r with
    | some (b, e) => ((Sre.forSearch code text 0 s text.size false).runFor m).outcome = some .matched ∧ ((Sre.forSearch code text 0 s text.size false).runFor m).start = b ∧ ((Sre.forSearch code text 0 s text.size false).runFor m).handed = e
    | none => ((Sre.forSearch code text 0 s text.size false).runFor m).outcome = some .failed) (hn : n ≤ 100000000) : findR code text s = some r := by
  have h := h 100000000 hn
  unfold findR
  rcases r with _ | ⟨b, e⟩
  · rw [show (Sre.M.runFor 100000000 (Sre.forSearch code text 0 s text.size false)).outcome = _ from h]
  · obtain ⟨h1, h2, h3⟩ := h
    rw [h1]
    show some (some (_, _)) = _
    rw [h2, h3]
theorem search1 (text : Array Nat) (s : Nat) (h : s < text.size) : Sre.forSearch code1 text 0 s text.size false = mk1 text s true (({} : Sre.Seen).add 14) := by
  have c : (decide (s > text.size) || decide (text.size - s < 1)) = false := by simp; omega
  have : Sre.forSearch code1 text 0 s text.size false = if (decide (s > text.size) || decide (text.size - s < 1)) = true then { mk1 text s true (({} : Sre.Seen).add 14) with lastStart := 0, frames := [], weight := 0, answer := some false } else mk1 text s true (({} : Sre.Seen).add 14) := by rfl
  rw [this, c]; rfl
theorem search1_over (text : Array Nat) : ∀ m, 1 ≤ m → ((Sre.forSearch code1 text 0 text.size text.size false).runFor m).outcome = some .failed := by
  intro m hm
  have c : (decide (text.size > text.size) || decide (text.size - text.size < 1)) = true := by simp
  have : Sre.forSearch code1 text 0 text.size text.size false = if (decide (text.size > text.size) || decide (text.size - text.size < 1)) = true then { mk1 text text.size true (({} : Sre.Seen).add 14) with lastStart := 0, frames := [], weight := 0, answer := some false } else mk1 text text.size true (({} : Sre.Seen).add 14) := by rfl
  rw [this, c, if_pos rfl]
  obtain ⟨j, rfl⟩ : ∃ j, m = j + 1 := ⟨m - 1, by omega⟩
  rw [run1 rfl, runFor_done rfl]; rfl
theorem finds1 (text : Array Nat) (h : text.size ≤ 1000000) : Finds (hit1f text) code1 text := by
  intro s hs
  by_cases c : s < text.size
  · obtain ⟨k, hk, hr⟩ := go1 text (text.size - s) s true (({} : Sre.Seen).add 14) (by omega)
    refine findR_of (n := k) (fun m hm => ?_) (by omega)
    obtain ⟨j, rfl⟩ : ∃ j, m = k + j := ⟨m - k, by omega⟩
    rw [search1 text s c]
    exact hr j
  · obtain rfl : s = text.size := by omega
    refine findR_of (n := 1) (fun m hm => ?_) (by omega)
    rw [Nat.sub_self]
    exact search1_over text m hm
end Mine
open PySem PySem.W PyProof.Rows PySem.Calls
set_option linter.unusedVariables false
set_option maxRecDepth 100000
namespace Mine
open Builtin Builtin.Re
noncomputable def mk2 (text : Array Nat) (p pc pos handed : Nat) (o : Bool) (frames : List Sre.Frame) (weight : Nat) (answer : Option Bool) (seen : Sre.Seen) : Sre.M :=
  { code := code2, text, lim := text.size, start := p, lastStart := text.size, wholeText := false, mustAdvance := false, pc, pos, handed, outermost := o, marks := #[], lastmark := -1, lastindex := -1, loops := #[], inner := none,
    frames, weight, answer, seen, outcome := none }
noncomputable def fN (p : Nat) : Sre.Frame := { wait := .nextStart, pc := 10, pos := p, outermost := true }
noncomputable def fB (p alt : Nat) : Sre.Frame := { wait := .nextBranch, pc := alt, pos := p, outermost := true }
noncomputable def fL (pos : Nat) : Sre.Frame := { wait := .lookNot, pc := 26, pos, outermost := true }

theorem lit2 (text : Array Nat) (p pc c pos handed : Nat) (o : Bool) (frames : List Sre.Frame) (w : Nat) (seen : Sre.Seen) (hpc : (pc = 12 ∧ c = 13) ∨ (pc = 14 ∧ c = 10) ∨ (pc = 19 ∧ c = 10) ∨ (pc = 24 ∧ c = 13) ∨ (pc = 29 ∧ c = 10)) :
    (mk2 text p pc pos handed o frames w none seen).step = if pos < text.size ∧ text.getD pos 0 = c then mk2 text p (pc + 2) (pos + 1) handed o frames w none (seen.add 16) else mk2 text p pc pos handed o frames w (some false) (seen.add 16) := by
  have key : ∀ (pc c : Nat), ((pc = 12 ∧ c = 13) ∨ (pc = 14 ∧ c = 10) ∨ (pc = 19 ∧ c = 10) ∨ (pc = 24 ∧ c = 13) ∨ (pc = 29 ∧ c = 10)) → (mk2 text p pc pos handed o frames w none seen).step = (if pos ≥ text.size then mk2 text p pc pos handed o frames w (some false) (seen.add 16) else match (Except.ok (text.getD pos 0 == c, seen.add 16) : Except String (Bool × Sre.Seen)) with | .error why => (mk2 text p pc pos handed o frames w none (seen.add 16)).stick why | .ok (false, seen) => mk2 text p pc pos handed o frames w (some false) seen | .ok (true, seen) => mk2 text p (pc + 2) (pos + 1) handed o frames w none seen) := by
    intro pc c h
    rcases h with ⟨rfl, rfl⟩ | ⟨rfl, rfl⟩ | ⟨rfl, rfl⟩ | ⟨rfl, rfl⟩ | ⟨rfl, rfl⟩ <;> rfl
  rw [key pc c hpc]
  by_cases h1 : pos ≥ text.size
  · rw [if_pos h1, if_neg (by omega)]
  · rw [if_neg h1]
    cases h : text.getD pos 0 == c with
    | false => rw [if_neg (fun q => by rw [beq_eq_false_iff_ne] at h; exact h q.2)]
    | true => rw [if_pos ⟨by omega, eq_of_beq h⟩]
theorem br2 (text : Array Nat) (p h : Nat) (seen : Sre.Seen) : (mk2 text p 10 p h true [fN p] 1 none seen).step = mk2 text p 12 p p true [fB p 11, fN p] 2 none (seen.add 7) := by rfl
theorem alt2 (text : Array Nat) (p pc pos h : Nat) (o : Bool) (seen : Sre.Seen) : (mk2 text p pc pos h o [fB p 11, fN p] 2 (some false) seen).step = mk2 text p 19 p p true [fB p 18, fN p] 2 none seen := by rfl
theorem alt3 (text : Array Nat) (p pc pos h : Nat) (o : Bool) (seen : Sre.Seen) : (mk2 text p pc pos h o [fB p 18, fN p] 2 (some false) seen).step = mk2 text p 24 p p true [fB p 23, fN p] 2 none seen := by rfl
theorem jmp16 (text : Array Nat) (p pos h : Nat) (fr : List Sre.Frame) (seen : Sre.Seen) : (mk2 text p 16 pos h true fr 2 none seen).step = mk2 text p 35 pos h true fr 2 none (seen.add 15) := by rfl
theorem jmp21 (text : Array Nat) (p pos h : Nat) (fr : List Sre.Frame) (seen : Sre.Seen) : (mk2 text p 21 pos h true fr 2 none seen).step = mk2 text p 35 pos h true fr 2 none (seen.add 15) := by rfl
theorem jmp32 (text : Array Nat) (p pos h : Nat) (fr : List Sre.Frame) (seen : Sre.Seen) : (mk2 text p 32 pos h true fr 2 none seen).step = mk2 text p 35 pos h true fr 2 none (seen.add 15) := by rfl
theorem look2 (text : Array Nat) (p pos h : Nat) (seen : Sre.Seen) : (mk2 text p 26 pos h true [fB p 23, fN p] 2 none seen).step = mk2 text p 29 pos pos false [fL pos, fB p 23, fN p] 3 none (seen.add 5) := by rfl
theorem unlook2 (text : Array Nat) (p pos pos' h : Nat) (seen : Sre.Seen) : (mk2 text p 29 pos h false [fL pos', fB p 23, fN p] 3 (some false) seen).step = mk2 text p 32 pos' h true [fB p 23, fN p] 2 none seen := by rfl
theorem suc2 (text : Array Nat) (p pos h : Nat) (fr : List Sre.Frame) (seen : Sre.Seen) : (mk2 text p 35 pos h true fr 2 none seen).step = mk2 text p 35 pos pos true fr 2 (some true) (seen.add 1) := by rfl
theorem up2 (text : Array Nat) (p pos h alt : Nat) (seen : Sre.Seen) : (mk2 text p 35 pos h true [fB p alt, fN p] 2 (some true) seen).step = mk2 text p alt p h true [fN p] 1 (some true) seen := by rfl
theorem out2 (text : Array Nat) (p pc pos h : Nat) (seen : Sre.Seen) : (mk2 text p pc pos h true [fN p] 1 (some true) seen).step = mk2 text p 10 p h true [] 0 (some true) seen := by rfl
theorem fin2 (text : Array Nat) (p pc pos h : Nat) (seen : Sre.Seen) : (mk2 text p pc pos h true [] 0 (some true) seen).step.outcome = some .matched ∧ (mk2 text p pc pos h true [] 0 (some true) seen).step.start = p ∧ (mk2 text p pc pos h true [] 0 (some true) seen).step.handed = h := ⟨rfl, rfl, rfl⟩
theorem tail2 (text : Array Nat) (p pos h alt : Nat) (seen : Sre.Seen) (j : Nat) : ((mk2 text p 35 pos h true [fB p alt, fN p] 2 none seen).runFor (4 + j)).outcome = some .matched ∧ ((mk2 text p 35 pos h true [fB p alt, fN p] 2 none seen).runFor (4 + j)).start = p ∧ ((mk2 text p 35 pos h true [fB p alt, fN p] 2 none seen).runFor (4 + j)).handed = pos := by
  rw [show 4 + j = j + 1 + 1 + 1 + 1 by omega, run1 rfl, suc2, run1 rfl, up2, run1 rfl, out2, run1 rfl, runFor_done (by rw [(fin2 _ _ _ _ _ _).1]; rfl)]
  exact fin2 _ _ _ _ _ _
noncomputable def end2 (text : Array Nat) (p : Nat) : Nat := if text.getD p 0 = 13 ∧ p + 1 < text.size ∧ text.getD (p + 1) 0 = 10 then p + 2 else p + 1
theorem hit2 (text : Array Nat) (p h : Nat) (seen : Sre.Seen) (hp : p < text.size) (hc : text.getD p 0 = 10 ∨ text.getD p 0 = 13) : ∀ j, ((mk2 text p 10 p h true [fN p] 1 none seen).runFor (16 + j)).outcome = some .matched ∧ ((mk2 text p 10 p h true [fN p] 1 none seen).runFor (16 + j)).start = p ∧ ((mk2 text p 10 p h true [fN p] 1 none seen).runFor (16 + j)).handed = end2 text p := by
  intro j
  rw [show 16 + j = (14 + j) + 1 + 1 by omega, run1 rfl, br2, run1 rfl, lit2 _ _ _ 13 _ _ _ _ _ _ (.inl ⟨rfl, rfl⟩)]
  by_cases c13 : text.getD p 0 = 13
  · rw [if_pos ⟨hp, c13⟩, show 14 + j = (13 + j) + 1 by omega, run1 rfl, lit2 _ _ _ 10 _ _ _ _ _ _ (.inr (.inl ⟨rfl, rfl⟩))]
    by_cases c10 : p + 1 < text.size ∧ text.getD (p + 1) 0 = 10
    · have e : end2 text p = p + 2 := if_pos ⟨c13, c10⟩
      rw [if_pos c10, show 13 + j = (4 + (8 + j)) + 1 by omega, run1 rfl, jmp16, e]
      exact tail2 ..
    · have e : end2 text p = p + 1 := if_neg (fun q => c10 q.2)
      rw [if_neg c10, show 13 + j = (12 + j) + 1 by omega, run1 rfl, alt2, show 12 + j = (11 + j) + 1 by omega, run1 rfl, lit2 _ _ _ 10 _ _ _ _ _ _ (.inr (.inr (.inl ⟨rfl, rfl⟩))), if_neg (by rw [c13]; omega),
        show 11 + j = (10 + j) + 1 by omega, run1 rfl, alt3, show 10 + j = (9 + j) + 1 by omega, run1 rfl, lit2 _ _ _ 13 _ _ _ _ _ _ (.inr (.inr (.inr (.inl ⟨rfl, rfl⟩)))), if_pos ⟨hp, c13⟩,
        show 9 + j = (8 + j) + 1 by omega, run1 rfl, look2, show 8 + j = (7 + j) + 1 by omega, run1 rfl, lit2 _ _ _ 10 _ _ _ _ _ _ (.inr (.inr (.inr (.inr ⟨rfl, rfl⟩)))), if_neg c10,
        show 7 + j = (6 + j) + 1 by omega, run1 rfl, unlook2, show 6 + j = (5 + j) + 1 by omega, run1 rfl, jmp32, e, show 5 + j = 4 + (1 + j) by omega]
      exact tail2 ..
  · have c10 : text.getD p 0 = 10 := hc.resolve_right c13
    have e : end2 text p = p + 1 := if_neg (fun q => c13 q.1)
    rw [if_neg (fun q => c13 q.2), show 14 + j = (13 + j) + 1 by omega, run1 rfl, alt2, show 13 + j = (12 + j) + 1 by omega, run1 rfl, lit2 _ _ _ 10 _ _ _ _ _ _ (.inr (.inr (.inl ⟨rfl, rfl⟩))), if_pos ⟨hp, c10⟩,
      show 12 + j = (4 + (7 + j)) + 1 by omega, run1 rfl, jmp21, e]
    exact tail2 ..

noncomputable def hit2f (text : Array Nat) (s : Nat) : Option Nat := if text.getD s 0 = 10 ∨ text.getD s 0 = 13 then some (end2 text s) else none
theorem inSet2 (c : Nat) (seen : Sre.Seen) : Sre.inSet code2 c code2.size 5 true seen = if c = 10 then .ok (true, seen.add 16) else if c = 13 then .ok (true, (seen.add 16).add 16) else .ok (false, ((seen.add 16).add 16).add 0) := by
  have : Sre.inSet code2 c code2.size 5 true seen = if (c == 10) = true then .ok (true, seen.add 16) else if (c == 13) = true then .ok (true, (seen.add 16).add 16) else .ok (false, ((seen.add 16).add 16).add 0) := by rfl
  rw [this]
  simp only [beq_iff_eq]
theorem admit2 (text : Array Nat) (m : Sre.M) (hm : m.code = code2) (ht : m.text = text) (hl : m.lim = text.size) : ∀ (d s fuel : Nat) (seen : Sre.Seen), s + d = text.size → d < fuel → ∃ seen', m.admitted fuel s seen = .ok ((nx (hit2f text) d s).map (·.1), seen')
  | 0, s, f + 1, seen, h, hf => by
    refine ⟨seen, ?_⟩
    unfold Sre.M.admitted
    rw [if_pos (by omega)]; rfl
  | d + 1, s, f + 1, seen, h, hf => by
    unfold Sre.M.admitted
    rw [if_neg (by omega), hm, ht, inSet2]
    by_cases c10 : text.getD s 0 = 10
    · rw [if_pos c10]
      refine ⟨seen.add 16, ?_⟩
      have : nx (hit2f text) (d + 1) s = some (s, end2 text s) := by unfold nx hit2f; rw [if_pos (.inl c10)]
      rw [this]; rfl
    · rw [if_neg c10]
      by_cases c13 : text.getD s 0 = 13
      · rw [if_pos c13]
        refine ⟨(seen.add 16).add 16, ?_⟩
        · have : nx (hit2f text) (d + 1) s = some (s, end2 text s) := by unfold nx hit2f; rw [if_pos (.inr c13)]
          rw [this]; rfl
      · rw [if_neg c13]
        obtain ⟨seen', h'⟩ := admit2 text m hm ht hl d (s + 1) f (((seen.add 16).add 16).add 0) (by omega) (by omega)
        refine ⟨seen', ?_⟩
        have : nx (hit2f text) (d + 1) s = nx (hit2f text) d (s + 1) := by
          show (match hit2f text s with | some e => some (s, e) | none => nx (hit2f text) d (s + 1)) = _
          have : hit2f text s = none := if_neg (fun q => q.elim c10 c13)
          rw [this]
        rw [this]
        exact h'
noncomputable def base2 (text : Array Nat) (s : Nat) : Sre.M := mk2 text s 10 s s true [] 0 none (({} : Sre.Seen).add 14)
theorem search2 (text : Array Nat) (s : Nat) (h : s < text.size) : Sre.forSearch code2 text 0 s text.size false = (base2 text s).attemptFrom s true := by
  have c : (decide (s > text.size) || decide (text.size - s < 1)) = false := by simp; omega
  have : Sre.forSearch code2 text 0 s text.size false = if (decide (s > text.size) || decide (text.size - s < 1)) = true then { base2 text s with lastStart := 0, answer := some false } else (base2 text s).attemptFrom s true := by rfl
  rw [this, c]; rfl
theorem search2_over (text : Array Nat) : ∀ m, 1 ≤ m → ((Sre.forSearch code2 text 0 text.size text.size false).runFor m).outcome = some .failed := by
  intro m hm
  have c : (decide (text.size > text.size) || decide (text.size - text.size < 1)) = true := by simp
  have : Sre.forSearch code2 text 0 text.size text.size false = if (decide (text.size > text.size) || decide (text.size - text.size < 1)) = true then { base2 text text.size with lastStart := 0, answer := some false } else (base2 text text.size).attemptFrom text.size true := by rfl
  rw [this, c, if_pos rfl]
  obtain ⟨j, rfl⟩ : ∃ j, m = j + 1 := ⟨m - 1, by omega⟩
  rw [run1 rfl, runFor_done rfl]; rfl
theorem nx_hit {hit : Nat → Option Nat} : ∀ (d s b e : Nat), nx hit d s = some (b, e) → s ≤ b ∧ b < s + d ∧ hit b = some e
  | 0, _, _, _, h => by cases h
  | d + 1, s, b, e, h => by
    unfold nx at h
    cases hh : hit s with
    | some e' => rw [hh] at h; injection h with h; injection h with h1 h2; subst h1 h2; exact ⟨Nat.le_refl _, by omega, hh⟩
    | none => rw [hh] at h; obtain ⟨h1, h2, h3⟩ := nx_hit d (s + 1) b e h; exact ⟨by omega, by omega, h3⟩
theorem finds2 (text : Array Nat) : Finds (hit2f text) code2 text := by
  intro s hs
  by_cases c : s < text.size
  · refine findR_of (n := 16) (fun m hm => ?_) (by omega)
    rw [search2 text s c]
    obtain ⟨seen', ha⟩ := admit2 text (base2 text s) rfl rfl rfl (text.size - s) s (text.size + 1 - s) (base2 text s).seen (by omega) (by omega)
    have e : (base2 text s).attemptFrom s true = (match (base2 text s).admitted (text.size + 1 - s) s (base2 text s).seen with
      | .ok (some s', seen) => { base2 text s with mustAdvance := false, seen }.attemptAt s' true
      | .ok (none, seen) => { base2 text s with seen }.say false
      | .error why => (base2 text s).stick why) := by rfl
    rw [e, ha]
    cases hn : nx (hit2f text) (text.size - s) s with
    | none =>
      obtain ⟨j, rfl⟩ : ∃ j, m = j + 1 := ⟨m - 1, by omega⟩
      show (Sre.M.runFor (j + 1) (({ base2 text s with seen := seen' } : Sre.M).say false)).outcome = _
      rw [run1 rfl, runFor_done rfl]; rfl
    | some be =>
      obtain ⟨b, e⟩ := be
      obtain ⟨h1, h2, h3⟩ := nx_hit _ _ _ _ hn
      obtain ⟨j, rfl⟩ : ∃ j, m = 16 + j := ⟨m - 16, by omega⟩
      have hc : text.getD b 0 = 10 ∨ text.getD b 0 = 13 := by
        unfold hit2f at h3
        by_cases c : text.getD b 0 = 10 ∨ text.getD b 0 = 13
        · exact c
        · rw [if_neg c] at h3; cases h3
      have he : e = end2 text b := by
        unfold hit2f at h3
        rw [if_pos hc] at h3
        injection h3 with h3; exact h3.symm
      have := hit2 text b b seen' (by omega) hc j
      rw [← he] at this
      exact this
  · obtain rfl : s = text.size := by omega
    refine findR_of (n := 1) (fun m hm => ?_) (by omega)
    rw [Nat.sub_self]
    exact search2_over text m hm
end Mine
open PySem PySem.W PyProof.Rows PySem.Calls
set_option linter.unusedVariables false
set_option maxRecDepth 100000
namespace Mine

noncomputable def s1 : Bool → List Nat → List Nat
  | _, [] => []
  | b, c :: r => if b = true ∧ c = 46 then 46 :: 46 :: s1 false r else c :: s1 (c == 10) r
noncomputable def s2 : Bool → List Nat → List Nat
  | _, [] => []
  | b, c :: r => if c = 13 then 13 :: 10 :: s2 true r else if c = 10 then (if b = true then s2 false r else 13 :: 10 :: s2 false r) else c :: s2 false r

theorem drop_getD (text : Array Nat) (s : Nat) (h : s < text.size) : text.toList.drop s = text.getD s 0 :: text.toList.drop (s + 1) := by
  have hs : s < text.toList.length := by rw [Array.length_toList]; exact h
  rw [List.drop_eq_getElem_cons hs]
  congr 1
  rw [Array.getD_eq_getD_getElem?, Array.getElem?_eq_getElem h]; rfl
theorem drop_over (text : Array Nat) (s : Nat) (h : ¬ s < text.size) : text.toList.drop s = [] := List.drop_eq_nil_of_le (by rw [Array.length_toList]; omega)
theorem bol_succ (text : Array Nat) (s : Nat) : bol text (s + 1) = (text.getD s 0 == 10) := by
  unfold bol
  rw [show (s + 1 == 0) = false by simp, Bool.false_or, Nat.add_sub_cancel]

theorem sub_s1 {n s d : Nat} (h : n - s ≤ d + 1) : n - (s + 1) ≤ d := by omega
theorem sub_s2 {n s d : Nat} (h : n - s ≤ d + 1) : n - (s + 2) ≤ d := by omega
theorem sub_s0 {n s : Nat} (h : n - s ≤ 0) : ¬ s < n := by omega
theorem subL1 (text : Array Nat) : ∀ d s, text.size - s ≤ d → subL text [46, 46] (hit1f text) d s = s1 (bol text s) (text.toList.drop s)
  | 0, s, h => by rw [drop_over _ _ (sub_s0 h)]; cases bol text s <;> rfl
  | d + 1, s, h => by
    unfold subL
    by_cases c : s < text.size
    · rw [if_pos c, drop_getD _ _ c]
      unfold s1 hit1f
      by_cases q : (bol text s && text.getD s 0 == 46) = true
      · rw [if_pos q]
        rw [Bool.and_eq_true, beq_iff_eq] at q
        rw [if_pos q]
        show [46, 46] ++ subL text [46, 46] (hit1f text) d (s + 1) = _
        rw [subL1 text d (s + 1) (sub_s1 h), bol_succ, q.2]
        rfl
      · rw [if_neg q]
        rw [Bool.and_eq_true, beq_iff_eq] at q
        rw [if_neg q]
        show text.getD s 0 :: subL text [46, 46] (hit1f text) d (s + 1) = _
        rw [subL1 text d (s + 1) (sub_s1 h), bol_succ]
    · rw [if_neg c, drop_over _ _ c]; cases bol text s <;> rfl

theorem subL2 (text : Array Nat) : ∀ d s, text.size - s ≤ d → subL text [13, 10] (hit2f text) d s = s2 false (text.toList.drop s)
  | 0, s, h => by rw [drop_over _ _ (sub_s0 h)]; rfl
  | d + 1, s, h => by
    unfold subL
    by_cases c : s < text.size
    · rw [if_pos c, drop_getD _ _ c]
      unfold s2 hit2f
      by_cases c13 : text.getD s 0 = 13
      · rw [if_pos (.inr c13), if_pos c13]
        show [13, 10] ++ subL text [13, 10] (hit2f text) d (end2 text s) = _
        unfold end2
        by_cases q : s + 1 < text.size ∧ text.getD (s + 1) 0 = 10
        · rw [if_pos ⟨c13, q⟩, subL2 text d (s + 2) (sub_s2 h), drop_getD _ _ q.1]
          conv => rhs; unfold s2
          rw [q.2, if_neg (by decide), if_pos rfl, if_pos rfl]
          rfl
        · rw [if_neg (fun e => q e.2), subL2 text d (s + 1) (sub_s1 h)]
          by_cases c1 : s + 1 < text.size
          · have q2 : ¬ text.getD (s + 1) 0 = 10 := fun e => q ⟨c1, e⟩
            rw [drop_getD _ _ c1]
            unfold s2
            rw [if_neg q2, if_neg q2]
            rfl
          · rw [drop_over _ _ c1]; rfl
      · rw [if_neg c13]
        by_cases c10 : text.getD s 0 = 10
        · rw [if_pos (.inl c10), if_pos c10, if_neg (by decide)]
          show [13, 10] ++ subL text [13, 10] (hit2f text) d (end2 text s) = _
          unfold end2
          rw [if_neg (fun e => c13 e.1), subL2 text d (s + 1) (sub_s1 h)]
          rfl
        · rw [if_neg (fun e => e.elim c10 c13), if_neg c10]
          show text.getD s 0 :: subL text [13, 10] (hit2f text) d (s + 1) = _
          rw [subL2 text d (s + 1) (sub_s1 h)]
    · rw [if_neg c, drop_over _ _ c]; rfl

theorem s1_len : ∀ (l : List Nat) (b : Bool), (s1 b l).length ≤ 2 * l.length
  | [], b => by simp [s1]
  | c :: r, b => by
    unfold s1
    split
    · have := s1_len r false; simp only [List.length_cons]; omega
    · have := s1_len r (c == 10); simp only [List.length_cons]; omega
theorem s2_len : ∀ (l : List Nat) (b : Bool), (s2 b l).length ≤ 2 * l.length
  | [], b => by simp [s2]
  | c :: r, b => by
    have h1 := s2_len r true
    have h2 := s2_len r false
    unfold s2
    split
    · simp only [List.length_cons]; omega
    · split
      · split
        · simp only [List.length_cons]; omega
        · simp only [List.length_cons]; omega
      · simp only [List.length_cons]; omega
theorem okLen_of {n : Nat} (h : n ≤ 100000) : okLen n = true := Nat.ble_eq_true_of_le h
theorem subD_of {code rp : Array Nat} {hit : Nat → Option Nat} {text : List Nat} {r : List Nat} (F : Finds hit code ⟨text⟩) (he : ∀ s e, s < text.length → hit s = some e → s < e ∧ e ≤ text.length) (hr : subL ⟨text⟩ rp.toList hit (text.length + 1) 0 = r)
    (h : text.length ≤ 1000) (hl : r.length ≤ 2 * text.length) : subD code ⟨text⟩ rp = some ⟨r⟩ := by
  have hz : (⟨text⟩ : Array Nat).size = text.length := rfl
  obtain ⟨out, ho, hf, hn⟩ := subGo_ok (rp := rp) F he (text.length + 1) 0 (text.length + 2) (Nat.zero_le _) (by rw [hz]; omega) (by omega)
  unfold subD
  rw [hz, ho]
  rw [hr] at hf
  have hs : (flat out).size = r.length := by rw [← hf, Array.length_toList]
  show (bif okLen text.length && (okLen out.length && okLen (flat out).size) then some (flat out) else none) = _
  rw [hs, okLen_of (by omega), okLen_of (by omega), okLen_of (by omega)]
  show some (flat out) = _
  rw [← hf]
theorem subD1 {text : List Nat} (h : text.length ≤ 1000) : subD code1 ⟨text⟩ #[46, 46] = some ⟨s1 true text⟩ := by
  refine subD_of (finds1 _ (by show text.length ≤ 1000000; omega)) (fun s e hs hh => ?_) ?_ h (s1_len _ _)
  · unfold hit1f at hh
    split at hh
    · cases hh; omega
    · cases hh
  · exact subL1 ⟨text⟩ _ 0 (by show text.length - 0 ≤ _; omega)
theorem subD2 {text : List Nat} (h : text.length ≤ 1000) : subD code2 ⟨text⟩ #[13, 10] = some ⟨s2 false text⟩ := by
  refine subD_of (finds2 _) (fun s e hs hh => ?_) ?_ h (s2_len _ _)
  · unfold hit2f at hh
    split at hh
    · injection hh with hh
      subst hh
      unfold end2
      split
      · rename_i q; have h2 : s + 1 < text.length := q.2.1; omega
      · omega
    · cases hh
  · exact subL2 ⟨text⟩ _ 0 (by show text.length - 0 ≤ _; omega)
end Mine
open PySem PySem.W PyProof.Rows PySem.Calls
set_option linter.unusedVariables false
set_option maxRecDepth 100000
namespace Mine
noncomputable def lines (ps : List (List UInt8)) : List UInt8 := ps.flatMap (· ++ [13, 10])
noncomputable def places (base : Nat) : List (List UInt8) → List Nat
  | [] => []
  | p :: ps => (base + p.length) :: places (base + p.length + 2) ps
theorem lines_cons (p : List UInt8) (ps : List (List UInt8)) : lines (p :: ps) = p ++ 13 :: 10 :: lines ps := by
  unfold lines; rw [List.flatMap_cons, List.append_assoc]; rfl
theorem extract_at (pre p post : List UInt8) (n : Nat) (h : n = pre.length + p.length) : ((⟨pre ++ (p ++ post)⟩ : Array UInt8)).extract pre.length n = ⟨p⟩ := by
  apply Array.ext'
  rw [Array.toList_extract, List.extract_eq_take_drop]
  show List.take (n - pre.length) (List.drop pre.length (pre ++ (p ++ post))) = p
  rw [List.drop_left, h, Nat.add_sub_cancel_left, List.take_left]

noncomputable def ostep (b : Array UInt8) (acc : List Nat × Nat) (i : Nat) : List Nat × Nat := if (decide (i ≥ acc.2) && b.extract i (i + (#[13, 10] : Array UInt8).size) == #[13, 10]) = true then (i :: acc.1, i + (#[13, 10] : Array UInt8).size) else acc
theorem occ_eq (b : Array UInt8) : Builtin.Bytes.occurrences b #[13, 10] 0 b.size = ((List.range' 0 (b.size - 1)).foldl (ostep b) ([], 0)).1.reverse := by
  have e1 : b.size + 1 - (0 + (#[13, 10] : Array UInt8).size) = b.size - 1 := Nat.add_sub_add_right b.size 1 1
  have e : Builtin.Bytes.occurrences b #[13, 10] 0 b.size = (((List.range (b.size + 1 - (0 + (#[13, 10] : Array UInt8).size))).map (· + 0)).foldl (ostep b) ([], 0)).1.reverse := by rfl
  rw [e, e1, List.range_eq_range']
  congr 2
  simp

theorem ostep_no {b : Array UInt8} {pre post : List UInt8} {c : UInt8} (hb : b = ⟨pre ++ c :: post⟩) (hc : c ≠ 13) (acc : List Nat × Nat) : ostep b acc pre.length = acc := by
  unfold ostep
  have : (b.extract pre.length (pre.length + (#[13, 10] : Array UInt8).size) == #[13, 10]) = false := by
    rw [beq_eq_false_iff_ne]
    intro q
    have q2 := congrArg (fun a : Array UInt8 => a.toList.head?) q
    rw [hb] at q2
    simp only [Array.toList_extract, List.extract_eq_take_drop] at q2
    rw [List.drop_left] at q2
    have e2 : pre.length + (#[13, 10] : Array UInt8).size - pre.length = 2 := by show pre.length + 2 - pre.length = 2; omega
    rw [e2] at q2
    have q2 : some c = some 13 := q2
    injection q2 with q2
    exact hc q2
  rw [this, Bool.and_false, if_neg (by decide)]
theorem ostep_yes {b : Array UInt8} {pre post : List UInt8} (hb : b = ⟨pre ++ 13 :: 10 :: post⟩) (acc : List Nat × Nat) (h : acc.2 ≤ pre.length) : ostep b acc pre.length = (pre.length :: acc.1, pre.length + 2) := by
  unfold ostep
  have : b.extract pre.length (pre.length + (#[13, 10] : Array UInt8).size) = #[13, 10] := by
    rw [hb]
    exact extract_at pre [13, 10] post _ rfl
  rw [this, decide_eq_true h, if_pos (by decide)]
  rfl
theorem occ_skip (b : Array UInt8) (acc : List Nat × Nat) : ∀ (p pre post : List UInt8), b = ⟨pre ++ (p ++ post)⟩ → (∀ c ∈ p, c ≠ 13) → (List.range' pre.length p.length).foldl (ostep b) acc = acc
  | [], pre, post, hb, hc => rfl
  | c :: p, pre, post, hb, hc => by
    rw [List.length_cons, List.range'_succ, List.foldl_cons, ostep_no hb (hc c (List.mem_cons_self ..))]
    have := occ_skip b acc p (pre ++ [c]) post (by rw [hb]; simp) (fun d hd => hc d (List.mem_cons_of_mem _ hd))
    rwa [List.length_append] at this
theorem occ_go (b : Array UInt8) : ∀ (ps : List (List UInt8)) (pre : List UInt8) (acc : List Nat) (nxt : Nat), b = ⟨pre ++ lines ps⟩ → (∀ p ∈ ps, ∀ c ∈ p, c ≠ 13) → nxt ≤ pre.length → ((List.range' pre.length ((lines ps).length - 1)).foldl (ostep b) (acc, nxt)).1 = (places pre.length ps).reverse ++ acc
  | [], pre, acc, nxt, hb, hc, hn => rfl
  | p :: ps, pre, acc, nxt, hb, hc, hn => by
    rw [lines_cons] at hb ⊢
    have hp := hc p (List.mem_cons_self ..)
    have hl : (p ++ 13 :: 10 :: lines ps).length - 1 = p.length + (1 + (lines ps).length) := by
      simp only [List.length_append, List.length_cons]; omega
    rw [hl, ← List.range'_append_1, List.foldl_append, occ_skip b _ p pre (13 :: 10 :: lines ps) hb hp, Nat.add_comm 1, List.range'_succ, List.foldl_cons]
    have h1 : b = ⟨(pre ++ p) ++ 13 :: 10 :: lines ps⟩ := by rw [hb, List.append_assoc]
    have e1 := ostep_yes h1 (acc, nxt) (by rw [List.length_append]; show nxt ≤ _; omega)
    rw [List.length_append] at e1
    rw [e1]
    show _ = ((pre.length + p.length) :: places (pre.length + p.length + 2) ps).reverse ++ acc
    cases hps : (lines ps).length with
    | zero =>
      have : ps = [] := by
        cases ps with
        | nil => rfl
        | cons q qs => rw [lines_cons] at hps; simp at hps
      subst this
      simp [places]
    | succ n =>
      rw [List.range'_succ, List.foldl_cons]
      have h2 : b = ⟨((pre ++ p) ++ [13]) ++ 10 :: lines ps⟩ := by rw [hb]; simp
      have e2 := ostep_no h2 (by decide) ((pre.length + p.length) :: acc, pre.length + p.length + 2)
      rw [List.length_append, List.length_append] at e2
      rw [show pre.length + p.length + 1 = pre.length + p.length + [(13 : UInt8)].length from rfl, e2]
      have h3 : b = ⟨((pre ++ p) ++ [13, 10]) ++ lines ps⟩ := by rw [hb]; simp
      have := occ_go b ps ((pre ++ p) ++ [13, 10]) ((pre.length + p.length) :: acc) (pre.length + p.length + 2) h3 (fun q hq => hc q (List.mem_cons_of_mem _ hq)) (by simp only [List.length_append]; show _ ≤ _; exact Nat.le_refl _)
      rw [hps, Nat.add_sub_cancel] at this
      rw [show ((pre ++ p) ++ [(13 : UInt8), 10]).length = pre.length + p.length + 2 by simp [Nat.add_assoc]] at this
      rw [show pre.length + p.length + [(13 : UInt8)].length + 1 = pre.length + p.length + 2 from rfl, this]
      simp

noncomputable def bstep (b : Array UInt8) (st : Array (Array UInt8) × Nat) (p : Nat) : Array (Array UInt8) × Nat := (st.1.push (b.extract st.2 p), p + 2)
theorem between_eq (b : Array UInt8) (ps : List Nat) : Builtin.Bytes.between b 2 ps = ((ps.foldl (bstep b) (#[], 0)).1.push (b.extract (ps.foldl (bstep b) (#[], 0)).2 b.size)).toList := by rfl
theorem bet_go (b : Array UInt8) : ∀ (ps : List (List UInt8)) (pre : List UInt8) (acc : Array (Array UInt8)), b = ⟨pre ++ lines ps⟩ → (places pre.length ps).foldl (bstep b) (acc, pre.length) = (acc ++ (ps.map fun p => (⟨p⟩ : Array UInt8)).toArray, b.size)
  | [], pre, acc, hb => by
    subst hb
    simp [places, lines]
  | p :: ps, pre, acc, hb => by
    rw [lines_cons] at hb
    show (places (pre.length + p.length + 2) ps).foldl (bstep b) (acc.push (b.extract pre.length (pre.length + p.length)), pre.length + p.length + 2) = _
    have e1 : b.extract pre.length (pre.length + p.length) = ⟨p⟩ := by rw [hb]; exact extract_at pre p _ _ rfl
    have h3 : b = ⟨((pre ++ p) ++ [13, 10]) ++ lines ps⟩ := by rw [hb]; simp
    have := bet_go b ps ((pre ++ p) ++ [13, 10]) (acc.push ⟨p⟩) h3
    rw [show ((pre ++ p) ++ [(13 : UInt8), 10]).length = pre.length + p.length + 2 by simp [Nat.add_assoc]] at this
    rw [e1, this]
    simp
theorem lines_len : ∀ (ps : List (List UInt8)), ps.length ≤ (lines ps).length
  | [] => Nat.le_refl _
  | p :: ps => by
    have := lines_len ps
    rw [lines_cons]
    simp only [List.length_append, List.length_cons]; omega
theorem places_len : ∀ (ps : List (List UInt8)) (n : Nat), (places n ps).length = ps.length
  | [], n => rfl
  | p :: ps, n => by unfold places; rw [List.length_cons, List.length_cons, places_len ps]
theorem splitB_lines (ps : List (List UInt8)) (hc : ∀ p ∈ ps, ∀ c ∈ p, c ≠ 13) (hne : ps ≠ []) : splitB ⟨lines ps⟩ = (ps.map fun p => (⟨p⟩ : Array UInt8)) ++ [#[]] := by
  have ho : Builtin.Bytes.occurrences ⟨lines ps⟩ #[13, 10] 0 (⟨lines ps⟩ : Array UInt8).size = places 0 ps := by
    rw [occ_eq]
    have := occ_go ⟨lines ps⟩ ps [] [] 0 rfl hc (Nat.zero_le _)
    rw [show (⟨lines ps⟩ : Array UInt8).size = (lines ps).length from rfl]
    rw [show ([] : List UInt8).length = 0 from rfl] at this
    rw [this]; simp
  unfold splitB
  rw [ho, List.take_of_length_le (by rw [places_len]; have := lines_len ps; show _ ≤ (lines ps).length + 1; omega)]
  rw [if_neg (by cases ps with
    | nil => exact absurd rfl hne
    | cons p ps => simp [places])]
  rw [between_eq]
  have := bet_go ⟨lines ps⟩ ps [] #[] rfl
  rw [show ([] : List UInt8).length = 0 from rfl] at this
  rw [this]
  simp
end Mine
open PySem PySem.W PyProof.Rows PySem.Calls
set_option linter.unusedVariables false
set_option maxRecDepth 100000
namespace Mine

noncomputable def headL : Nat → List Nat
  | 0 => [40]
  | 1 => [41, 40]
  | 2 => [41]
  | _ => [46]
noncomputable def tailL : Nat → List Nat
  | 0 => []
  | 1 => [32, 34, 40, 34]
  | 2 => [32, 34, 92, 34, 41, 34]
  | _ => [32, 34, 40, 92, 92, 34]
noncomputable def eolL : Nat → List Nat
  | 0 => [10]
  | 1 => [13, 10]
  | _ => [13]
noncomputable def dotL : Nat → List Nat
  | 0 => []
  | 1 => []
  | 2 => []
  | _ => [46]
noncomputable def rowL (k t : Nat) : List Nat := headL k ++ tailL t
noncomputable abbrev Row := Nat × Nat × Nat
noncomputable def textL (rs : List Row) : List Nat := rs.flatMap fun r => rowL r.1 r.2.1 ++ eolL r.2.2
noncomputable def sentL (rs : List Row) : List Nat := rs.flatMap fun r => rowL r.1 r.2.1 ++ [13, 10]
noncomputable def dueL (rs : List Row) : List Nat := rs.flatMap fun r => dotL r.1 ++ (rowL r.1 r.2.1 ++ [13, 10])

theorem head_cases (k : Nat) : headL k = [40] ∧ dotL k = [] ∨ headL k = [41, 40] ∧ dotL k = [] ∨ headL k = [41] ∧ dotL k = [] ∨ headL k = [46] ∧ dotL k = [46] := by
  match k with
  | 0 => exact .inl ⟨rfl, rfl⟩
  | 1 => exact .inr (.inl ⟨rfl, rfl⟩)
  | 2 => exact .inr (.inr (.inl ⟨rfl, rfl⟩))
  | _ + 3 => exact .inr (.inr (.inr ⟨rfl, rfl⟩))
theorem tail_cases (t : Nat) : tailL t = [] ∨ tailL t = [32, 34, 40, 34] ∨ tailL t = [32, 34, 92, 34, 41, 34] ∨ tailL t = [32, 34, 40, 92, 92, 34] := by
  match t with
  | 0 => exact .inl rfl
  | 1 => exact .inr (.inl rfl)
  | 2 => exact .inr (.inr (.inl rfl))
  | _ + 3 => exact .inr (.inr (.inr rfl))
theorem eol_cases (e : Nat) : eolL e = [10] ∨ eolL e = [13, 10] ∨ eolL e = [13] := by
  match e with
  | 0 => exact .inl rfl
  | 1 => exact .inr (.inl rfl)
  | _ + 2 => exact .inr (.inr rfl)
theorem row_plain (k t : Nat) : ∀ c ∈ rowL k t, c ≠ 10 ∧ c ≠ 13 ∧ c < 128 := by
  unfold rowL
  rcases head_cases k with ⟨h, _⟩ | ⟨h, _⟩ | ⟨h, _⟩ | ⟨h, _⟩ <;> rcases tail_cases t with e | e | e | e <;> rw [h, e] <;> decide
theorem row_len (k t : Nat) : (rowL k t).length ≤ 8 := by
  unfold rowL
  rcases head_cases k with ⟨h, _⟩ | ⟨h, _⟩ | ⟨h, _⟩ | ⟨h, _⟩ <;> rcases tail_cases t with e | e | e | e <;> rw [h, e] <;> decide
theorem eol_len (e : Nat) : (eolL e).length ≤ 2 := by rcases eol_cases e with h | h | h <;> rw [h] <;> decide
theorem dot_len (k : Nat) : (dotL k).length ≤ 1 := by rcases head_cases k with ⟨_, h⟩ | ⟨_, h⟩ | ⟨_, h⟩ | ⟨_, h⟩ <;> rw [h] <;> decide
theorem textL_cons (r : Row) (rs : List Row) : textL (r :: rs) = rowL r.1 r.2.1 ++ (eolL r.2.2 ++ textL rs) := by unfold textL; rw [List.flatMap_cons, List.append_assoc]
theorem sentL_cons (r : Row) (rs : List Row) : sentL (r :: rs) = rowL r.1 r.2.1 ++ (13 :: 10 :: sentL rs) := by unfold sentL; rw [List.flatMap_cons, List.append_assoc]; rfl
theorem dueL_cons (r : Row) (rs : List Row) : dueL (r :: rs) = dotL r.1 ++ (rowL r.1 r.2.1 ++ (13 :: 10 :: dueL rs)) := by unfold dueL; rw [List.flatMap_cons, List.append_assoc, List.append_assoc]; rfl
theorem textL_len : ∀ rs : List Row, (textL rs).length ≤ 10 * rs.length
  | [] => Nat.le_refl _
  | r :: rs => by
    have := textL_len rs
    have := row_len r.1 r.2.1
    have := eol_len r.2.2
    rw [textL_cons]; simp only [List.length_append, List.length_cons]; omega
theorem sentL_len : ∀ rs : List Row, (sentL rs).length ≤ 10 * rs.length
  | [] => Nat.le_refl _
  | r :: rs => by
    have := sentL_len rs
    have := row_len r.1 r.2.1
    rw [sentL_cons]; simp only [List.length_append, List.length_cons]; omega
theorem dueL_len : ∀ rs : List Row, (dueL rs).length ≤ 11 * rs.length
  | [] => Nat.le_refl _
  | r :: rs => by
    have := dueL_len rs
    have := row_len r.1 r.2.1
    have := dot_len r.1
    rw [dueL_cons]; simp only [List.length_append, List.length_cons]; omega
theorem textL_head (rs : List Row) : ∀ b, s2 b (textL rs) = s2 false (textL rs) := by
  intro b
  cases rs with
  | nil => rfl
  | cons r rs =>
    rw [textL_cons]
    unfold rowL
    rcases head_cases r.1 with ⟨h, _⟩ | ⟨h, _⟩ | ⟨h, _⟩ | ⟨h, _⟩ <;> rw [h] <;> rfl
theorem s2_plain : ∀ (l r : List Nat), (∀ c ∈ l, c ≠ 10 ∧ c ≠ 13 ∧ c < 128) → s2 false (l ++ r) = l ++ s2 false r
  | [], r, h => rfl
  | c :: l, r, h => by
    have hc := h c (List.mem_cons_self ..)
    rw [List.cons_append]
    show (if c = 13 then _ else if c = 10 then _ else c :: s2 false (l ++ r)) = _
    rw [if_neg hc.2.1, if_neg hc.1, s2_plain l r (fun d hd => h d (List.mem_cons_of_mem _ hd))]
    rfl
theorem s2_text : ∀ rs : List Row, s2 false (textL rs) = sentL rs
  | [] => rfl
  | r :: rs => by
    rw [textL_cons, sentL_cons, s2_plain _ _ (row_plain _ _), ← s2_text rs]
    congr 1
    rcases eol_cases r.2.2 with h | h | h <;> rw [h]
    · rfl
    · rfl
    · show 13 :: 10 :: s2 true (textL rs) = _
      rw [textL_head]
theorem s1_plain : ∀ (l r : List Nat) (b : Bool), (∀ c ∈ l, c ≠ 10 ∧ c ≠ 13 ∧ c < 128) → s1 false (l ++ 13 :: 10 :: r) = l ++ 13 :: 10 :: s1 true r
  | [], r, b, h => rfl
  | c :: l, r, b, h => by
    have hc := h c (List.mem_cons_self ..)
    rw [List.cons_append]
    show (if false = true ∧ c = 46 then _ else c :: s1 (c == 10) (l ++ 13 :: 10 :: r)) = _
    rw [if_neg (fun q => by cases q.1), show (c == 10) = false from beq_eq_false_iff_ne.mpr hc.1, s1_plain l r b (fun d hd => h d (List.mem_cons_of_mem _ hd))]
    rfl
theorem s1_sent : ∀ rs : List Row, s1 true (sentL rs) = dueL rs
  | [] => rfl
  | r :: rs => by
    have hp := row_plain r.1 r.2.1
    rw [sentL_cons, dueL_cons, ← s1_sent rs]
    unfold rowL at hp ⊢
    rcases head_cases r.1 with ⟨h, d⟩ | ⟨h, d⟩ | ⟨h, d⟩ | ⟨h, d⟩ <;> rw [h] at hp ⊢ <;> rw [d]
    · show 40 :: s1 false (tailL r.2.1 ++ 13 :: 10 :: sentL rs) = _
      rw [s1_plain (tailL r.2.1) _ true (fun c hc => hp c (List.mem_cons_of_mem _ hc))]; rfl
    · show 41 :: 40 :: s1 false (tailL r.2.1 ++ 13 :: 10 :: sentL rs) = _
      rw [s1_plain (tailL r.2.1) _ true (fun c hc => hp c (List.mem_cons_of_mem _ (List.mem_cons_of_mem _ hc)))]; rfl
    · show 41 :: s1 false (tailL r.2.1 ++ 13 :: 10 :: sentL rs) = _
      rw [s1_plain (tailL r.2.1) _ true (fun c hc => hp c (List.mem_cons_of_mem _ hc))]; rfl
    · show 46 :: 46 :: s1 false (tailL r.2.1 ++ 13 :: 10 :: sentL rs) = _
      rw [s1_plain (tailL r.2.1) _ true (fun c hc => hp c (List.mem_cons_of_mem _ hc))]; rfl
theorem sent_ascii : ∀ rs : List Row, ∀ c ∈ sentL rs, c < 128
  | [], c, h => by cases h
  | r :: rs, c, h => by
    rw [sentL_cons] at h
    rcases List.mem_append.mp h with h | h
    · exact (row_plain _ _ c h).2.2
    · rcases List.mem_cons.mp h with rfl | h
      · decide
      · rcases List.mem_cons.mp h with rfl | h
        · decide
        · exact sent_ascii rs c h
theorem due_ascii : ∀ rs : List Row, ∀ c ∈ dueL rs, c < 128
  | [], c, h => by cases h
  | r :: rs, c, h => by
    rw [dueL_cons] at h
    rcases List.mem_append.mp h with h | h
    · rcases head_cases r.1 with ⟨_, d⟩ | ⟨_, d⟩ | ⟨_, d⟩ | ⟨_, d⟩ <;> rw [d] at h
      · cases h
      · cases h
      · cases h
      · rcases List.mem_cons.mp h with rfl | h
        · decide
        · cases h
    · rcases List.mem_append.mp h with h | h
      · exact (row_plain _ _ c h).2.2
      · rcases List.mem_cons.mp h with rfl | h
        · decide
        · rcases List.mem_cons.mp h with rfl | h
          · decide
          · exact due_ascii rs c h
noncomputable def by8 (l : List Nat) : Array UInt8 := ⟨l.map fun c => c.toUInt8⟩
theorem by8_map (l : List Nat) : (⟨l⟩ : Array Nat).map (·.toUInt8) = by8 l := by
  apply Array.ext'; rw [Array.toList_map]; rfl
theorem by8_nat (l : List Nat) (h : ∀ c ∈ l, c < 128) : (by8 l).map (·.toNat) = ⟨l⟩ := by
  apply Array.ext'
  rw [Array.toList_map]
  show (l.map (·.toUInt8)).map (·.toNat) = l
  rw [List.map_map]
  conv => rhs; rw [← List.map_id l]
  apply List.map_congr_left
  intro c hc
  have := h c hc
  show (c.toUInt8).toNat = c
  show c % 256 = c
  omega

theorem fix_rows (rs : List Row) (h : rs.length ≤ 10) : prim 10 [.str ⟨⟨textL rs⟩⟩] = some (.str ⟨⟨sentL rs⟩⟩) := by
  show (match subD code2 ⟨textL rs⟩ #[13, 10] with | some o => some (D.str ⟨o⟩) | none => none) = _
  rw [subD2 (by have := textL_len rs; omega), s2_text]
theorem enc_of (l : List Nat) (h : ∀ c ∈ l, c < 128) (hl : l.length ≤ 1000) : encD (.str ⟨⟨l⟩⟩) = some (.bytes (by8 l)) := by
  show (bif (⟨l⟩ : Array Nat).all (fun c => Nat.blt c 128) && okLen l.length then some (D.bytes ((⟨l⟩ : Array Nat).map (fun c => c.toUInt8))) else none) = _
  have : (⟨l⟩ : Array Nat).all (fun c => Nat.blt c 128) = true := by
    rw [Array.all_eq_true_iff_forall_mem]
    intro c hc
    have := h c (by simpa using hc)
    exact Nat.ble_eq_true_of_le this
  rw [this, okLen_of (by omega), by8_map]
  rfl
theorem quote_rows (rs : List Row) (h : rs.length ≤ 10) : prim 9 [.bytes (by8 (sentL rs))] = some (.bytes (by8 (dueL rs))) := by
  show (match subD code1 ((by8 (sentL rs)).map (·.toNat)) #[46, 46] with | some o => some (D.bytes (o.map (fun (c : Nat) => c.toUInt8))) | none => none) = _
  rw [by8_nat _ (sent_ascii rs), subD1 (by have := sentL_len rs; omega), s1_sent]
  show some (D.bytes ((⟨dueL rs⟩ : Array Nat).map (fun c => c.toUInt8))) = _
  rw [by8_map]
noncomputable def pieceL (k t : Nat) : List UInt8 := (dotL k ++ rowL k t).map (·.toUInt8)
theorem due_lines : ∀ rs : List Row, (dueL rs).map (fun c => c.toUInt8) = lines (rs.map fun (r : Row) => pieceL r.1 r.2.1)
  | [] => rfl
  | r :: rs => by
    rw [dueL_cons, List.map_cons, lines_cons, ← due_lines rs]
    unfold pieceL
    simp only [List.map_append, List.map_cons, List.append_assoc]
    rfl
theorem piece_plain (k t : Nat) : ∀ c ∈ pieceL k t, c ≠ 13 := by
  unfold pieceL rowL
  rcases head_cases k with ⟨h, d⟩ | ⟨h, d⟩ | ⟨h, d⟩ | ⟨h, d⟩ <;> rcases tail_cases t with e | e | e | e <;> rw [h, e, d] <;> decide
theorem piece_len (k t : Nat) : (pieceL k t).length ≤ 9 := by
  unfold pieceL rowL
  rcases head_cases k with ⟨h, d⟩ | ⟨h, d⟩ | ⟨h, d⟩ | ⟨h, d⟩ <;> rcases tail_cases t with e | e | e | e <;> rw [h, e, d] <;> decide
theorem split_rows (rs : List Row) (h : rs.length ≤ 10) (hne : rs ≠ []) : splitD (.bytes (by8 (dueL rs))) = some (.lst ((rs.map fun (r : Row) => D.bytes ⟨pieceL r.1 r.2.1⟩) ++ [.bytes #[]])) := by
  have e : splitB (by8 (dueL rs)) = (rs.map fun (r : Row) => (⟨pieceL r.1 r.2.1⟩ : Array UInt8)) ++ [#[]] := by
    unfold by8
    rw [due_lines, splitB_lines _ (fun p hp => ?_) (fun q => hne (List.map_eq_nil_iff.mp q)), List.map_map]
    · rfl
    · obtain ⟨r, _, rfl⟩ := List.mem_map.mp hp
      exact piece_plain _ _
  show (bif okLen (splitB (by8 (dueL rs))).length && (splitB (by8 (dueL rs))).all (fun p => okLen p.size) then some (D.lst ((splitB (by8 (dueL rs))).map .bytes)) else none) = _
  rw [e]
  have h1 : okLen ((rs.map fun (r : Row) => (⟨pieceL r.1 r.2.1⟩ : Array UInt8)) ++ [#[]]).length = true := okLen_of (by simp; omega)
  have h2 : ((rs.map fun (r : Row) => (⟨pieceL r.1 r.2.1⟩ : Array UInt8)) ++ [#[]]).all (fun p => okLen p.size) = true := by
    rw [List.all_eq_true]
    intro p hp
    rcases List.mem_append.mp hp with hp | hp
    · obtain ⟨r, _, rfl⟩ := List.mem_map.mp hp
      have := piece_len r.1 r.2.1
      exact okLen_of (by show (pieceL r.1 r.2.1).length ≤ _; omega)
    · rw [List.mem_singleton.mp hp]; decide
  rw [h1, h2, List.map_append, List.map_map]
  rfl
end Mine
open PySem PySem.W PyProof.Rows PySem.Calls
set_option linter.unusedVariables false
set_option maxRecDepth 100000
namespace Mine

noncomputable abbrev EV (n : Nat) : Ev := ev fns prim n
section
variable {n : Nat} {σ σ₁ : St} {a b e hi lo : E} {x y z : D}
theorem r_bin {o : Op2} (ha : (EV n).e σ a = some x) (hb : (EV n).e σ b = some y) (hz : binD o x y = some z) : (EV (n + 1)).e σ (.bin o a b) = some z := by
  show (match (EV n).e σ a with | some x => (match (EV n).e σ b with | some y => binD o x y | none => none) | none => none) = _
  rw [ha, hb]; exact hz
theorem r_idx (ha : (EV n).e σ a = some x) (hb : (EV n).e σ b = some y) (hz : idxD x y = some z) : (EV (n + 1)).e σ (.idx a b) = some z := by
  show (match (EV n).e σ a with | some x => (match (EV n).e σ b with | some y => idxD x y | none => none) | none => none) = _
  rw [ha, hb]; exact hz
theorem r_var {k : Nat} (h : look k σ.env = some x) : (EV (n + 1)).e σ (.var k) = some x := h
theorem r_len (ha : (EV n).e σ a = some x) (hz : lenD x = some z) : (EV (n + 1)).e σ (.len a) = some z := by
  show ((EV n).e σ a).bind lenD = _
  rw [ha]; exact hz
theorem r_encode (ha : (EV n).e σ a = some x) (hz : encD x = some z) : (EV (n + 1)).e σ (.encode a) = some z := by
  show ((EV n).e σ a).bind encD = _
  rw [ha]; exact hz
theorem r_split (ha : (EV n).e σ a = some x) (hz : splitD x = some z) : (EV (n + 1)).e σ (.split a) = some z := by
  show ((EV n).e σ a).bind splitD = _
  rw [ha]; exact hz
theorem r_cmp1 {c : Cm} {t : Bool} (ha : (EV n).e σ a = some x) (hb : (EV n).e σ b = some y) (hz : cmpD c x y = some t) : (EV (n + 1)).t σ (.cmp a [c] [b]) = some t := by
  show (match (EV n).e σ a with | some x => (match (EV n).e σ b with | some y => cmpD c x y | none => none) | none => none) = _
  rw [ha, hb]; exact hz
theorem r_ife1 {t : T} (ht : (EV n).t σ t = some true) (ha : (EV n).e σ a = some x) : (EV (n + 1)).e σ (.ife t a b) = some x := by
  show (match (EV n).t σ t with | some true => (EV n).e σ a | some false => (EV n).e σ b | none => none) = _
  rw [ht]; exact ha
theorem r_ife0 {t : T} (ht : (EV n).t σ t = some false) (ha : (EV n).e σ b = some x) : (EV (n + 1)).e σ (.ife t a b) = some x := by
  show (match (EV n).t σ t with | some true => (EV n).e σ a | some false => (EV n).e σ b | none => none) = _
  rw [ht]; exact ha
theorem r_asg {k : Nat} {r : List S} {o : Option (St × Fl)} (ha : (EV n).e σ a = some x) (hr : (EV n).ss (σ.put k x) r = o) : (EV (n + 1)).ss σ (.asg k a :: r) = o := by
  show (match ((EV n).e σ a).map fun d => (σ.put k d, Fl.next) with | some (σ', .next) => (EV n).ss σ' r | some (σ', .ret d) => some (σ', .ret d) | none => none) = _
  rw [ha]; exact hr
theorem r_ret {r : List S} (ha : (EV n).e σ a = some x) : (EV (n + 1)).ss σ (.ret a :: r) = some (σ, .ret x) := by
  show (match ((EV n).e σ a).map fun d => (σ, Fl.ret d) with | some (σ', .next) => (EV n).ss σ' r | some (σ', .ret d) => some (σ', .ret d) | none => none) = _
  rw [ha]; rfl
theorem r_step {s : S} {r : List S} {o : Option (St × Fl)} (ha : stepS (EV n) σ s = some (σ₁, .next)) (hr : (EV n).ss σ₁ r = o) : (EV (n + 1)).ss σ (s :: r) = o := by
  show (match stepS (EV n) σ s with | some (σ', .next) => (EV n).ss σ' r | some (σ', .ret d) => some (σ', .ret d) | none => none) = _
  rw [ha]; exact hr
theorem r_call1 {f : Nat} (ha : (EV n).e σ a = some x) (hz : (EV n).f f [x] = some z) : (EV (n + 1)).e σ (.call f [a]) = some z := by
  show (match (match (EV n).e σ a with | some d => (match some [] with | some ds => some (d :: ds) | none => none) | none => none) with | some ds => (EV n).f f ds | none => none) = _
  rw [ha]; exact hz
theorem r_call2 {f : Nat} (ha : (EV n).e σ a = some x) (hb : (EV n).e σ b = some y) (hz : (EV n).f f [x, y] = some z) : (EV (n + 1)).e σ (.call f [a, b]) = some z := by
  show (match (match (EV n).e σ a with | some d => (match (match (EV n).e σ b with | some d => (match some [] with | some ds => some (d :: ds) | none => none) | none => none) with | some ds => some (d :: ds) | none => none) | none => none) with | some ds => (EV n).f f ds | none => none) = _
  rw [ha, hb]; exact hz
theorem r_tup2 (ha : (EV n).e σ a = some x) (hb : (EV n).e σ b = some y) : (EV (n + 1)).e σ (.tup [a, b]) = some (.tup [x, y]) := by
  show (match (match (EV n).e σ a with | some d => (match (match (EV n).e σ b with | some d => (match some [] with | some ds => some (d :: ds) | none => none) | none => none) with | some ds => some (d :: ds) | none => none) | none => none) with | some ds => (bif okLen ds.length then some (D.tup ds) else none) | none => none) = _
  rw [ha, hb]; rfl
theorem r_f1 {f p : Nat} {body : List S} (hf : fns f = some ⟨[p], body⟩) (hb : (EV n).ss ⟨[(p, x)], none⟩ body = some (σ₁, .ret z)) : (EV (n + 1)).f f [x] = some z := by
  show (match fns f with | some fn => (bif Nat.beq fn.params.length [x].length then (match (EV n).ss ⟨fn.params.zip [x], none⟩ fn.body with | some (_, .ret d) => some d | _ => none) else none) | none => prim f [x]) = _
  rw [hf]
  show (match (EV n).ss ⟨[(p, x)], none⟩ body with | some (_, .ret d) => some d | _ => none) = _
  rw [hb]
theorem r_f2 {f p q : Nat} {body : List S} (hf : fns f = some ⟨[p, q], body⟩) (hb : (EV n).ss ⟨[(p, x), (q, y)], none⟩ body = some (σ₁, .ret z)) : (EV (n + 1)).f f [x, y] = some z := by
  show (match fns f with | some fn => (bif Nat.beq fn.params.length [x, y].length then (match (EV n).ss ⟨fn.params.zip [x, y], none⟩ fn.body with | some (_, .ret d) => some d | _ => none) else none) | none => prim f [x, y]) = _
  rw [hf]
  show (match (EV n).ss ⟨[(p, x), (q, y)], none⟩ body with | some (_, .ret d) => some d | _ => none) = _
  rw [hb]
theorem r_for1 {k : Nat} {it : I} {body r : List S} {ds : List D} {o : Option (St × Fl)} (hI : evalI (EV n) σ it = some ds) (hl : loop (bind1 k) (fun σ => (EV n).ss σ body) ds σ = some (σ₁, .next)) (hr : (EV n).ss σ₁ r = o) : (EV (n + 1)).ss σ (.for1 k it body :: r) = o := by
  refine r_step (σ₁ := σ₁) ?_ hr
  show (match evalI (EV n) σ it with | some ds => loop (bind1 k) (fun σ => (EV n).ss σ body) ds σ | none => none) = _
  rw [hI]; exact hl
theorem i_seq {ds : List D} (ha : (EV n).e σ a = some (.lst ds)) (h : okLen ds.length = true) : evalI (EV n) σ (.seq a) = some ds := by
  show (match (EV n).e σ a with | some (.lst ds) => (bif okLen ds.length then some ds else none) | _ => none) = _
  rw [ha]
  show (bif okLen ds.length then some ds else none) = _
  rw [h]; rfl
theorem i_range {k : Nat} (ha : (EV n).e σ a = some (.int (k : Int))) (h : k ≤ 1000) : evalI (EV n) σ (.range a) = some ((List.range k).map fun (j : Nat) => D.int (j : Int)) := by
  show (match (EV n).e σ a with | some (.int i) => (bif okInt i then some ((List.range i.toNat).map fun (k : Nat) => D.int (k : Int)) else none) | _ => none) = _
  rw [ha]
  show (bif okInt (k : Int) then _ else none) = _
  rw [show okInt (k : Int) = true from Nat.ble_eq_true_of_le (by show k ≤ _; omega)]; rfl
theorem r_rep {k : Nat} (ha : (EV n).e σ a = some x) (hb : (EV n).e σ b = some (.int (k : Int))) (h : k ≤ 1000) : (EV (n + 1)).e σ (.rep a b) = some (.lst (List.replicate k x)) := by
  show (match (EV n).e σ a with | some x => (match (EV n).e σ b with | some (D.int i) => (bif okInt i && okLen i.toNat then some (D.lst (List.replicate i.toNat x)) else none) | _ => none) | none => none) = _
  rw [ha, hb]
  show (bif okInt (k : Int) && okLen (k : Int).toNat then _ else none) = _
  rw [show okInt (k : Int) = true from Nat.ble_eq_true_of_le (by show k ≤ _; omega), show okLen (k : Int).toNat = true from okLen_of (by show k ≤ _; omega)]; rfl
theorem r_accAdd {env : List (Nat × D)} {ds es : List D} (ha : (EV n).e ⟨env, some ds⟩ a = some (.lst es)) (h : ds.length + es.length ≤ 100000) : (EV (n + 1)).e ⟨env, some ds⟩ (.accAdd a) = some (.lst (ds ++ es)) := by
  show (match (some ds : Option (List D)) with | some ds => (match (EV n).e ⟨env, some ds⟩ a with | some (.lst es) => (bif okLen (ds.length + es.length) then some (D.lst (ds ++ es)) else none) | _ => none) | none => none) = _
  show (match (EV n).e ⟨env, some ds⟩ a with | some (.lst es) => (bif okLen (ds.length + es.length) then some (D.lst (ds ++ es)) else none) | _ => none) = _
  rw [ha]
  show (bif okLen (ds.length + es.length) then _ else none) = _
  rw [okLen_of h]; rfl
theorem r_app {env : List (Nat × D)} {ds : List D} {r : List S} {o : Option (St × Fl)} (ha : (EV n).e ⟨env, some ds⟩ a = some x) (h : ds.length ≤ 100000) (hr : (EV n).ss ⟨env, some (ds ++ [x])⟩ r = o) : (EV (n + 1)).ss ⟨env, some ds⟩ (.app a :: r) = o := by
  refine r_step (σ₁ := ⟨env, some (ds ++ [x])⟩) ?_ hr
  show (match (EV n).e ⟨env, some ds⟩ a with | some d => (bif okLen ds.length then some ((⟨env, some (ds ++ [d])⟩ : St), Fl.next) else none) | none => none) = _
  rw [ha]
  show (bif okLen ds.length then _ else none) = _
  rw [okLen_of h]; rfl
theorem r_acc {env : List (Nat × D)} {r : List S} {o : Option (St × Fl)} (hr : (EV n).ss ⟨env, some []⟩ r = o) : (EV (n + 1)).ss ⟨env, none⟩ (.acc :: r) = o := r_step rfl hr
theorem r_nil : (EV (n + 1)).ss σ [] = some (σ, .next) := rfl
theorem l_cons {k : Nat} {ds : List D} {f : St → Option (St × Fl)} {o : Option (St × Fl)} (h : f (σ.put k x) = some (σ₁, .next)) (hr : loop (bind1 k) f ds σ₁ = o) : loop (bind1 k) f (x :: ds) σ = o := by
  show (match f (σ.put k x) with | some (σ₂, .next) => loop (bind1 k) f ds σ₂ | some (σ₂, .ret r) => some (σ₂, .ret r) | none => none) = _
  rw [h]; exact hr
theorem c_nil {elt : E} {k : Nat} {ρ : List (Nat × D)} {v : Ev} {t : Option T} : compGo v elt k t ρ [] = some [] := rfl
theorem c_cons {elt : E} {k : Nat} {ρ : List (Nat × D)} {ds ys : List D} {v : Ev} (h : v.e ⟨(k, x) :: ρ, none⟩ elt = some y) (hr : compGo v elt k none ρ ds = some ys) : compGo v elt k none ρ (x :: ds) = some (y :: ys) := by
  show (match v.e ⟨(k, x) :: ρ, none⟩ elt with | some y => (match compGo v elt k none ρ ds with | some ys => some (y :: ys) | none => none) | none => none) = _
  rw [h, hr]
end

theorem lt3 {k : Nat} (h : k < 3) : k = 0 ∨ k = 1 ∨ k = 2 := by omega
theorem lt4 {k : Nat} (h : k < 4) : k = 0 ∨ k = 1 ∨ k = 2 ∨ k = 3 := by omega
theorem lt5 {k : Nat} (h : k < 5) : k = 0 ∨ k = 1 ∨ k = 2 ∨ k = 3 ∨ k = 4 := by omega
noncomputable def dElt : E := .bin .mod (.bin .add (.idx (.var 1) (.var 2)) (.ife (.cmp (.var 2) [.lt] [.len (.var 0)]) (.idx (.var 0) (.var 2)) (.int 0))) (.int 48)
noncomputable def dBegin : D := .lst [.int 4, .int 24, .int 37, .int 11, .int 28]
noncomputable def isL (is : List Int) : D := .lst (is.map .int)
theorem elt_ok (n : Nat) (is : List Int) (h : is.length ≤ 63) (k : Nat) (hk : k < 5) : ∃ w : Nat, w < 48 ∧ (EV (n + 8)).e ⟨[(2, .int (k : Int)), (1, dBegin), (0, isL is)], none⟩ dElt = some (.int (w : Int)) := by
  have hb : ∃ i : Int, (EV (n + 6)).e ⟨[(2, .int (k : Int)), (1, dBegin), (0, isL is)], none⟩ (.idx (.var 1) (.var 2)) = some (.int i) := by
    rcases lt5 hk with rfl | rfl | rfl | rfl | rfl
    · exact ⟨4, rfl⟩
    · exact ⟨24, rfl⟩
    · exact ⟨37, rfl⟩
    · exact ⟨11, rfl⟩
    · exact ⟨28, rfl⟩
  obtain ⟨i, hb⟩ := hb
  have hlen : lenD (isL is) = some (.int (is.length : Int)) := by
    show (bif okLen (is.map D.int).length then some (D.int ((is.map D.int).length : Int)) else none) = _
    rw [List.length_map, okLen_of (by omega)]; rfl
  have hi : ∃ j : Int, (EV (n + 6)).e ⟨[(2, .int (k : Int)), (1, dBegin), (0, isL is)], none⟩ (.ife (.cmp (.var 2) [.lt] [.len (.var 0)]) (.idx (.var 0) (.var 2)) (.int 0)) = some (.int j) := by
    by_cases c : (k : Int) < (is.length : Int)
    · have hk' : k < is.length := by omega
      refine ⟨is[k], r_ife1 (r_cmp1 (x := .int (k : Int)) (y := .int (is.length : Int)) rfl (r_len rfl hlen) (by show some (decide _) = _; rw [decide_eq_true c])) (r_idx (x := isL is) (y := .int (k : Int)) rfl rfl ?_)⟩
      show (bif okInt (k : Int) then (is.map D.int)[k]? else none) = _
      rw [show okInt (k : Int) = true from Nat.ble_eq_true_of_le (by show k ≤ _; omega), List.getElem?_map, List.getElem?_eq_getElem hk']
      rfl
    · exact ⟨0, r_ife0 (r_cmp1 (x := .int (k : Int)) (y := .int (is.length : Int)) rfl (r_len rfl hlen) (by show some (decide _) = _; rw [decide_eq_false c])) rfl⟩
  obtain ⟨j, hi⟩ := hi
  have h0 : 0 ≤ (i + j).fmod 48 := Int.fmod_nonneg_of_pos _ (by decide)
  have h1 : (i + j).fmod 48 < 48 := Int.fmod_lt_of_pos _ (by decide)
  refine ⟨((i + j).fmod 48).toNat, by omega, r_bin (r_bin hb hi (z := .int (i + j)) rfl) (y := .int 48) rfl ?_⟩
  show (bif (48 : Int) == 0 then none else some (D.int ((i + j).fmod 48))) = _
  rw [Int.toNat_of_nonneg h0]; rfl
theorem drawn_ok (n : Nat) (is : List Int) (h : is.length ≤ 63) : ∃ a b c d e : Nat, (a < 48 ∧ b < 48 ∧ c < 48 ∧ d < 48 ∧ e < 48) ∧ (EV (n + 14)).f 0 [isL is] = some (.lst [.int (a : Int), .int (b : Int), .int (c : Int), .int (d : Int), .int (e : Int)]) := by
  obtain ⟨a, ha, ea⟩ := elt_ok (n + 2) is h 0 (by decide)
  obtain ⟨b, hb, eb⟩ := elt_ok (n + 2) is h 1 (by decide)
  obtain ⟨c, hc, ec⟩ := elt_ok (n + 2) is h 2 (by decide)
  obtain ⟨d, hd, ed⟩ := elt_ok (n + 2) is h 3 (by decide)
  obtain ⟨e, he, ee⟩ := elt_ok (n + 2) is h 4 (by decide)
  refine ⟨a, b, c, d, e, ⟨ha, hb, hc, hd, he⟩, r_f1 (p := 0) (body := drawnB) rfl (r_asg (x := dBegin) rfl (r_ret ?_))⟩
  show (match compGo (EV (n + 10)) dElt 2 none [(1, dBegin), (0, isL is)] [.int ((0 : Nat) : Int), .int ((1 : Nat) : Int), .int ((2 : Nat) : Int), .int ((3 : Nat) : Int), .int ((4 : Nat) : Int)] with | some ys => (bif okLen ys.length then some (D.lst ys) else none) | none => none) = _
  rw [c_cons ea (c_cons eb (c_cons ec (c_cons ed (c_cons ee c_nil))))]
  rfl
end Mine
open PySem PySem.W PyProof.Rows PySem.Calls
set_option linter.unusedVariables false
set_option maxRecDepth 100000
namespace Mine

noncomputable def kd (v d : Nat) : Nat × Nat :=
  bif Nat.beq (v % 4) 0 && Nat.blt d 3 then (0, d + 1)
  else bif Nat.beq (v % 4) 1 && (Nat.blt 0 d && Nat.blt d 3) then (1, d)
  else bif Nat.beq (v % 4) 2 && Nat.blt 0 d then (2, d - 1)
  else (3, d)
noncomputable def kindsGo : Nat → List Nat → List Nat × Nat
  | d, [] => ([], d)
  | d, v :: vs => ((kd v d).1 :: (kindsGo (kd v d).2 vs).1, (kindsGo (kd v d).2 vs).2)
noncomputable def kindsL (vs : List Nat) : List Nat := (kindsGo 0 vs).1 ++ List.replicate (kindsGo 0 vs).2 2
noncomputable abbrev dN (k : Nat) : D := .int (k : Int)
noncomputable abbrev dNs (ks : List Nat) : D := .lst (ks.map dN)

noncomputable def kIf : S := .ifs (.and (.cmp (.bin .mod (.var 6) (.int 4)) [.eq] [.int 0]) (.cmp (.var 5) [.lt] [.int 3]))
      [.asg 7 (.int 0), .asg 5 (.bin .add (.var 5) (.int 1))]
      [.ifs (.and (.cmp (.bin .mod (.var 6) (.int 4)) [.eq] [.int 1]) (.cmp (.int 0) [.lt, .lt] [.var 5, .int 3]))
        [.asg 7 (.int 1)]
        [.ifs (.and (.cmp (.bin .mod (.var 6) (.int 4)) [.eq] [.int 2]) (.cmp (.var 5) [.gt] [.int 0]))
          [.asg 7 (.int 2), .asg 5 (.bin .sub (.var 5) (.int 1))]
          []]]
noncomputable def kBody : List S := [.asg 7 (.int 3), kIf, .app (.var 7)]
noncomputable def kEnv (L : D) (d v k : Nat) : List (Nat × D) := [(3, L), (5, dN d), (6, dN v), (7, dN k)]
theorem kIf_all (n : Nat) (L : D) (acc : Option (List D)) : (List.range 192).map (fun i => stepS (EV (n + 10)) ⟨kEnv L (i % 4) (i / 4) 3, acc⟩ kIf) = (List.range 192).map (fun i => some (⟨kEnv L (kd (i / 4) (i % 4)).2 (i / 4) (kd (i / 4) (i % 4)).1, acc⟩, Fl.next)) := by kernel_rfl
theorem kIf_ok (n : Nat) (L : D) (acc : Option (List D)) (v d : Nat) (hv : v < 48) (hd : d < 4) : stepS (EV (n + 10)) ⟨kEnv L d v 3, acc⟩ kIf = some (⟨kEnv L (kd v d).2 v (kd v d).1, acc⟩, Fl.next) := by
  have h := kIf_all n L acc
  have hi : 4 * v + d < 192 := by omega
  have := congrArg (fun l => l[4 * v + d]?) h
  simp only [List.getElem?_map, List.getElem?_range hi, Option.map_some] at this
  have e1 : (4 * v + d) % 4 = d := by omega
  have e2 : (4 * v + d) / 4 = v := by omega
  rw [e1, e2] at this
  exact Option.some.inj this
theorem kd_lt (v d : Nat) (hd : d < 4) : (kd v d).1 < 4 ∧ (kd v d).2 < 4 := by
  unfold kd
  cases h1 : (Nat.beq (v % 4) 0 && Nat.blt d 3) with
  | true =>
    rw [Bool.and_eq_true] at h1
    have := Nat.le_of_ble_eq_true h1.2
    exact ⟨(by decide : (0 : Nat) < 4), by show d + 1 < 4; omega⟩
  | false =>
    cases h2 : (Nat.beq (v % 4) 1 && (Nat.blt 0 d && Nat.blt d 3)) with
    | true => exact ⟨(by decide : (1 : Nat) < 4), hd⟩
    | false =>
      cases h3 : (Nat.beq (v % 4) 2 && Nat.blt 0 d) with
      | true => exact ⟨(by decide : (2 : Nat) < 4), by show d - 1 < 4; omega⟩
      | false => exact ⟨(by decide : (3 : Nat) < 4), hd⟩
theorem kBody_ok (n : Nat) (L : D) (env : List (Nat × D)) (acc : List D) (v d x : Nat) (hv : v < 48) (hd : d < 4) (he : env = [(3, L), (5, dN d)] ∨ ∃ v' k', env = kEnv L d v' k') (ha : acc.length ≤ 1000) :
    (EV (n + 14)).ss (St.put ⟨env, some acc⟩ 6 (dN v)) kBody = some (⟨kEnv L (kd v d).2 v (kd v d).1, some (acc ++ [dN (kd v d).1])⟩, .next) := by
  refine r_asg (x := dN 3) rfl ?_
  have e : (St.put (St.put ⟨env, some acc⟩ 6 (dN v)) 7 (dN 3)) = ⟨kEnv L d v 3, some acc⟩ := by
    rcases he with rfl | ⟨v', k', rfl⟩ <;> rfl
  rw [e]
  refine r_step (kIf_ok (n + 2) L (some acc) v d hv hd) ?_
  exact r_app (r_var rfl) (by omega) r_nil
theorem kLoop (n : Nat) (L : D) : ∀ (vs : List Nat) (env : List (Nat × D)) (acc : List D) (d : Nat), (∀ v ∈ vs, v < 48) → d < 4 → (env = [(3, L), (5, dN d)] ∨ ∃ v' k', env = kEnv L d v' k') → acc.length + vs.length ≤ 1000 →
    ∃ env', loop (bind1 6) (fun σ => (EV (n + 14)).ss σ kBody) (vs.map dN) ⟨env, some acc⟩ = some (⟨env', some (acc ++ (kindsGo d vs).1.map dN)⟩, .next) ∧ look 5 env' = some (dN (kindsGo d vs).2)
  | [], env, acc, d, hv, hd, he, ha => by
    refine ⟨env, ?_, ?_⟩
    · show some ((⟨env, some acc⟩ : St), Fl.next) = some ((⟨env, some (acc ++ [])⟩ : St), Fl.next)
      rw [List.append_nil]
    · rcases he with rfl | ⟨v', k', rfl⟩ <;> rfl
  | v :: vs, env, acc, d, hv, hd, he, ha => by
    have hv0 := hv v (List.mem_cons_self ..)
    have h1 := kBody_ok n L env acc v d 0 hv0 hd he (by simp only [List.length_cons] at ha; omega)
    obtain ⟨env', h2, h3⟩ := kLoop n L vs (kEnv L (kd v d).2 v (kd v d).1) (acc ++ [dN (kd v d).1]) (kd v d).2 (fun w hw => hv w (List.mem_cons_of_mem _ hw)) (kd_lt v d hd).2 (.inr ⟨_, _, rfl⟩) (by simp only [List.length_append, List.length_cons, List.length_nil] at ha ⊢; omega)
    refine ⟨env', ?_, h3⟩
    show (match (EV (n + 14)).ss (St.put ⟨env, some acc⟩ 6 (dN v)) kBody with
      | some (σ₂, .next) => loop (bind1 6) (fun σ => (EV (n + 14)).ss σ kBody) (vs.map dN) σ₂
      | some (σ₂, .ret r) => some (σ₂, .ret r)
      | none => none) = _
    rw [h1]
    show loop (bind1 6) (fun σ => (EV (n + 14)).ss σ kBody) (vs.map dN) ⟨kEnv L (kd v d).2 v (kd v d).1, some (acc ++ [dN (kd v d).1])⟩ = _
    rw [h2, List.append_assoc]
    rfl
theorem kindsGo_lt : ∀ (vs : List Nat) (d : Nat), d < 4 → (kindsGo d vs).2 < 4 ∧ (∀ k ∈ (kindsGo d vs).1, k < 4) ∧ (kindsGo d vs).1.length = vs.length
  | [], d, hd => ⟨hd, (fun k hk => by cases hk), rfl⟩
  | v :: vs, d, hd => by
    obtain ⟨h1, h2, h3⟩ := kindsGo_lt vs (kd v d).2 (kd_lt v d hd).2
    refine ⟨h1, fun k hk => ?_, by show _ + 1 = _ + 1; rw [h3]⟩
    rcases List.mem_cons.mp hk with rfl | hk
    · exact (kd_lt v d hd).1
    · exact h2 k hk
theorem kinds_ok (n : Nat) (vs : List Nat) (hv : ∀ v ∈ vs, v < 48) (hl : vs.length ≤ 100) : (EV (n + 18)).f 1 [dNs vs] = some (dNs (kindsL vs)) := by
  obtain ⟨env', h1, h2⟩ := kLoop n (dNs vs) vs [(3, dNs vs), (5, dN 0)] [] 0 hv (by decide) (.inl rfl) (by simp; omega)
  obtain ⟨b1, b2, b3⟩ := kindsGo_lt vs 0 (by decide)
  have e2 : (kindsGo 0 vs).1.length = vs.length := b3
  refine r_f1 (n := n + 17) (p := 3) (body := kindsB) rfl (r_acc (r_asg (x := dN 0) rfl (r_for1 (ds := vs.map dN) (σ₁ := ⟨env', some ([] ++ (kindsGo 0 vs).1.map dN)⟩) ?_ ?_ (r_ret ?_))))
  · exact i_seq rfl (okLen_of (by rw [List.length_map]; omega))
  · exact h1
  · refine (r_accAdd (es := List.replicate (kindsGo 0 vs).2 (dN 2)) (r_rep rfl (r_var h2) (by omega)) (by simp only [List.nil_append, List.length_map, List.length_replicate]; omega)).trans ?_
    unfold dNs kindsL
    rw [List.map_append, List.map_replicate]
    rfl
theorem kindsL_lt (vs : List Nat) : ∀ k ∈ kindsL vs, k < 4 := by
  intro k hk
  unfold kindsL at hk
  rcases List.mem_append.mp hk with hk | hk
  · exact (kindsGo_lt vs 0 (by decide)).2.1 k hk
  · rw [List.eq_of_mem_replicate hk]; decide
theorem kindsL_len (vs : List Nat) : (kindsL vs).length ≤ vs.length + 3 ∧ vs.length ≤ (kindsL vs).length := by
  unfold kindsL
  obtain ⟨h1, _, h3⟩ := kindsGo_lt vs 0 (by decide)
  rw [List.length_append, List.length_replicate, h3]
  omega
end Mine
open PySem PySem.W PyProof.Rows PySem.Calls
set_option linter.unusedVariables false
set_option maxRecDepth 100000
namespace Mine

noncomputable abbrev dS (l : List Nat) : D := .str ⟨⟨l⟩⟩
theorem b_add {a b : List Nat} (h : a.length + b.length ≤ 100000) : binD .add (dS a) (dS b) = some (dS (a ++ b)) := by
  show (bif okLen (a.length + b.length) then some (D.str ((⟨⟨a⟩⟩ : Str) ++ (⟨⟨b⟩⟩ : Str))) else none) = _
  rw [okLen_of h]
  have : (⟨⟨a⟩⟩ : Str) ++ (⟨⟨b⟩⟩ : Str) = ⟨⟨a ++ b⟩⟩ := by
    show (⟨(⟨a⟩ : Array Nat) ++ (⟨b⟩ : Array Nat)⟩ : Str) = _
    congr 1
    apply Array.ext'
    rw [Array.toList_append]
  rw [this]; rfl
theorem b_fdiv {a b : Nat} (ha : a ≤ 1000) (hb : b ≤ 1000) (h : 0 < b) : binD .fdiv (dN a) (dN b) = some (dN (a / b)) := by
  show (bif okInt (a : Int) && okInt (b : Int) && !((b : Int) == 0) then some (D.int ((a : Int).fdiv (b : Int))) else none) = _
  have h0 : ((b : Int) == 0) = false := by rw [beq_eq_false_iff_ne]; omega
  rw [show okInt (a : Int) = true from Nat.ble_eq_true_of_le (by show a ≤ _; omega), show okInt (b : Int) = true from Nat.ble_eq_true_of_le (by show b ≤ _; omega), h0]
  show some (D.int ((a : Int).fdiv (b : Int))) = _
  rw [← Int.ofNat_fdiv]
theorem b_mod {a b : Nat} (h : 0 < b) : binD .mod (dN a) (dN b) = some (dN (a % b)) := by
  show (bif ((b : Int) == 0) then none else some (D.int ((a : Int).fmod (b : Int)))) = _
  have h0 : ((b : Int) == 0) = false := by rw [beq_eq_false_iff_ne]; omega
  rw [h0]
  show some (D.int ((a : Int).fmod (b : Int))) = _
  rw [← Int.ofNat_fmod]
theorem i_at {ds : List Nat} {k : Nat} (hk : k < ds.length) (h : k ≤ 1000) : idxD (dNs ds) (dN k) = some (dN (ds.getD k 0)) := by
  show (bif okInt (k : Int) then (ds.map dN)[k]? else none) = _
  rw [show okInt (k : Int) = true from Nat.ble_eq_true_of_le (by show k ≤ _; omega), List.getElem?_map, List.getElem?_eq_getElem hk, List.getD_eq_getElem?_getD, List.getElem?_eq_getElem hk]
  rfl

noncomputable def heads : E := .list [.str "(", .str ")(", .str ")", .str "."]
noncomputable def tails : E := .list [.str "", .str " \"(\"", .str " \"\\\")\"", .str " \"(\\\\\""]
noncomputable def eols : E := .list [.str "\n", .str "\r\n", .str "\r"]
theorem heads_ok (n : Nat) (σ : St) {a : E} {k : Nat} (hk : k < 4) (ha : (EV (n + 2)).e σ a = some (dN k)) : (EV (n + 3)).e σ (.idx heads a) = some (dS (headL k)) := by
  have h : ∃ x, (EV (n + 2)).e σ heads = some x ∧ idxD x (dN k) = some (dS (headL k)) := by
    rcases lt4 hk with rfl | rfl | rfl | rfl
    · exact ⟨_, rfl, by kernel_rfl⟩
    · exact ⟨_, rfl, by kernel_rfl⟩
    · exact ⟨_, rfl, by kernel_rfl⟩
    · exact ⟨_, rfl, by kernel_rfl⟩
  obtain ⟨x, h1, h2⟩ := h
  exact r_idx h1 ha h2
theorem tails_ok (n : Nat) (σ : St) {a : E} {k : Nat} (hk : k < 4) (ha : (EV (n + 2)).e σ a = some (dN k)) : (EV (n + 3)).e σ (.idx tails a) = some (dS (tailL k)) := by
  have h : ∃ x, (EV (n + 2)).e σ tails = some x ∧ idxD x (dN k) = some (dS (tailL k)) := by
    rcases lt4 hk with rfl | rfl | rfl | rfl
    · exact ⟨_, rfl, by kernel_rfl⟩
    · exact ⟨_, rfl, by kernel_rfl⟩
    · exact ⟨_, rfl, by kernel_rfl⟩
    · exact ⟨_, rfl, by kernel_rfl⟩
  obtain ⟨x, h1, h2⟩ := h
  exact r_idx h1 ha h2
theorem eols_ok (n : Nat) (σ : St) {a : E} {k : Nat} (hk : k < 3) (ha : (EV (n + 2)).e σ a = some (dN k)) : (EV (n + 3)).e σ (.idx eols a) = some (dS (eolL k)) := by
  have h : ∃ x, (EV (n + 2)).e σ eols = some x ∧ idxD x (dN k) = some (dS (eolL k)) := by
    rcases lt3 hk with rfl | rfl | rfl
    · exact ⟨_, rfl, by kernel_rfl⟩
    · exact ⟨_, rfl, by kernel_rfl⟩
    · exact ⟨_, rfl, by kernel_rfl⟩
  obtain ⟨x, h1, h2⟩ := h
  exact r_idx h1 ha h2
theorem dots_ok {k : Nat} (hk : k < 4) : binD .mul (.str ".") (dN (k / 3)) = some (dS (dotL k)) := by
  rcases lt4 hk with rfl | rfl | rfl | rfl
  · kernel_rfl
  · kernel_rfl
  · kernel_rfl
  · kernel_rfl
theorem dots2_ok : (D.str "\r\n") = dS [13, 10] := by kernel_rfl

noncomputable def mBody : List S := [
    .asg 6 (.idx (.var 3) (.bin .mod (.var 2) (.int 5))),
    .asg 10 (.bin .add (.idx heads (.idx (.var 4) (.var 2))) (.idx tails (.bin .mod (.bin .fdiv (.var 6) (.int 4)) (.int 4)))),
    .asg 8 (.bin .add (.bin .add (.var 8) (.var 10)) (.idx eols (.bin .fdiv (.var 6) (.int 16)))),
    .asg 9 (.bin .add (.bin .add (.bin .add (.var 9) (.bin .mul (.str ".") (.bin .fdiv (.idx (.var 4) (.var 2)) (.int 3)))) (.var 10)) (.str "\r\n"))]
noncomputable def rowAt (vs ks : List Nat) (k : Nat) : Row := (ks.getD k 0, vs.getD (k % 5) 0 / 4 % 4, vs.getD (k % 5) 0 / 16)
noncomputable def rowsTo (vs ks : List Nat) (n : Nat) : List Row := (List.range n).map (rowAt vs ks)
theorem rowsTo_succ (vs ks : List Nat) (n : Nat) : rowsTo vs ks (n + 1) = rowsTo vs ks n ++ [rowAt vs ks n] := by unfold rowsTo; rw [List.range_succ, List.map_append]; rfl
theorem rowsTo_len (vs ks : List Nat) (n : Nat) : (rowsTo vs ks n).length = n := by unfold rowsTo; rw [List.length_map, List.length_range]
noncomputable def mEnv (V K : D) (t u : List Nat) (tl : List (Nat × D)) : List (Nat × D) := [(3, V), (4, K), (8, dS t), (9, dS u)] ++ tl
theorem mBody_ok (n : Nat) (vs ks : List Nat) (t u : List Nat) (tl : List (Nat × D)) (k : Nat) (hvs : vs.length = 5) (hv : ∀ i, i < 5 → vs.getD i 0 < 48) (hk : k < ks.length) (hks : ks.length ≤ 20) (hkk : ks.getD k 0 < 4) (ht : t.length ≤ 1000) (hu : u.length ≤ 1000) (htl : tl = [] ∨ ∃ a b c, tl = [(2, a), (6, b), (10, c)]) :
    ∃ tl', (∃ a b c, tl' = [(2, a), (6, b), (10, c)]) ∧ (EV (n + 14)).ss (St.put ⟨mEnv (dNs vs) (dNs ks) t u tl, none⟩ 2 (dN k)) mBody = some (⟨mEnv (dNs vs) (dNs ks) (t ++ (rowL (rowAt vs ks k).1 (rowAt vs ks k).2.1 ++ eolL (rowAt vs ks k).2.2)) (u ++ (dotL (rowAt vs ks k).1 ++ (rowL (rowAt vs ks k).1 (rowAt vs ks k).2.1 ++ [13, 10]))) tl', none⟩, .next) := by
  have hm : k % 5 < 5 := Nat.mod_lt _ (by decide)
  have hv5 := hv (k % 5) hm
  generalize hv0 : vs.getD (k % 5) 0 = v at hv5
  have hrow : rowAt vs ks k = (ks.getD k 0, v / 4 % 4, v / 16) := by unfold rowAt; rw [hv0]
  have hik : idxD (dNs ks) (dN k) = some (dN (ks.getD k 0)) := i_at hk (by omega)
  have hiv : idxD (dNs vs) (dN (k % 5)) = some (dN v) := by rw [i_at (by omega) (by omega), hv0]
  rw [hrow]
  generalize hkd : ks.getD k 0 = kd at hkk hik
  refine ⟨[(2, dN k), (6, dN v), (10, dS (rowL kd (v / 4 % 4)))], ⟨_, _, _, rfl⟩, ?_⟩
  have hr := row_len kd (v / 4 % 4)
  have he := eol_len (v / 16)
  have hd := dot_len kd
  have key : ∀ tl, (tl = [(2, dN k)] ∨ ∃ b c, tl = [(2, dN k), (6, b), (10, c)]) → (EV (n + 14)).ss ⟨mEnv (dNs vs) (dNs ks) t u tl, none⟩ mBody = some (⟨mEnv (dNs vs) (dNs ks) (t ++ (rowL kd (v / 4 % 4) ++ eolL (v / 16))) (u ++ (dotL kd ++ (rowL kd (v / 4 % 4) ++ [13, 10]))) [(2, dN k), (6, dN v), (10, dS (rowL kd (v / 4 % 4)))], none⟩, .next) := by
    intro tl htl
    have h1 : look 2 (mEnv (dNs vs) (dNs ks) t u tl) = some (dN k) := by rcases htl with rfl | ⟨b, c, rfl⟩ <;> rfl
    refine r_asg (x := dN v) (r_idx (x := dNs vs) (y := dN (k % 5)) rfl (r_bin (x := dN k) (y := dN 5) h1 rfl (b_mod (by decide))) hiv) ?_
    have h2 : ∃ tl2, (St.put ⟨mEnv (dNs vs) (dNs ks) t u tl, none⟩ 6 (dN v)) = ⟨mEnv (dNs vs) (dNs ks) t u ((2, dN k) :: (6, dN v) :: tl2), none⟩ ∧ (tl2 = [] ∨ ∃ c, tl2 = [(10, c)]) := by
      rcases htl with rfl | ⟨b, c, rfl⟩
      · exact ⟨[], rfl, .inl rfl⟩
      · exact ⟨[(10, c)], rfl, .inr ⟨c, rfl⟩⟩
    obtain ⟨tl2, h2, h3⟩ := h2
    rw [h2]
    refine r_asg (x := dS (rowL kd (v / 4 % 4))) (r_bin (x := dS (headL kd)) (y := dS (tailL (v / 4 % 4))) (heads_ok (n + 8) _ hkk (r_idx (x := dNs ks) (y := dN k) rfl rfl hik)) (tails_ok (n + 8) _ (Nat.mod_lt _ (by decide)) (r_bin (y := dN 4) (r_bin (x := dN v) (y := dN 4) rfl rfl (b_fdiv (by omega) (by decide) (by decide))) rfl (b_mod (by decide)))) (b_add (by unfold rowL at hr; rw [List.length_append] at hr; omega))) ?_
    have h4 : (St.put ⟨mEnv (dNs vs) (dNs ks) t u ((2, dN k) :: (6, dN v) :: tl2), none⟩ 10 (dS (rowL kd (v / 4 % 4)))) = ⟨mEnv (dNs vs) (dNs ks) t u [(2, dN k), (6, dN v), (10, dS (rowL kd (v / 4 % 4)))], none⟩ := by
      rcases h3 with rfl | ⟨c, rfl⟩ <;> rfl
    rw [h4]
    refine r_asg (x := dS ((t ++ rowL kd (v / 4 % 4)) ++ eolL (v / 16))) (r_bin (r_bin (x := dS t) (y := dS (rowL kd (v / 4 % 4))) rfl rfl (b_add (by omega))) (eols_ok (n + 7) _ (by omega) (r_bin (x := dN v) (y := dN 16) rfl rfl (b_fdiv (by omega) (by decide) (by decide)))) (b_add (by rw [List.length_append]; omega))) ?_
    refine r_asg (x := dS (((u ++ dotL kd) ++ rowL kd (v / 4 % 4)) ++ [13, 10])) (r_bin (r_bin (r_bin (x := dS u) (y := dS (dotL kd)) rfl (r_bin (x := .str ".") (y := dN (kd / 3)) rfl (r_bin (x := dN kd) (y := dN 3) (r_idx (x := dNs ks) (y := dN k) rfl rfl hik) rfl (b_fdiv (by omega) (by decide) (by decide))) (dots_ok hkk)) (b_add (by omega))) (y := dS (rowL kd (v / 4 % 4))) rfl (b_add (by rw [List.length_append]; omega))) (y := dS [13, 10]) (by rw [← dots2_ok]; rfl) (b_add (by simp only [List.length_append, List.length_cons, List.length_nil]; omega))) ?_
    simp only [List.append_assoc]
    rfl
  refine key (put 2 (dN k) tl) ?_
  rcases htl with rfl | ⟨a, b, c, rfl⟩
  · exact .inl rfl
  · exact .inr ⟨b, c, rfl⟩

theorem mLoop (n : Nat) (vs ks : List Nat) (hvs : vs.length = 5) (hv : ∀ i, i < 5 → vs.getD i 0 < 48) (hks : ks.length ≤ 20) (hk4 : ∀ k ∈ ks, k < 4) : ∀ (m i : Nat) (tl : List (Nat × D)), i + m = ks.length → (tl = [] ∨ ∃ a b c, tl = [(2, a), (6, b), (10, c)]) →
    ∃ tl', loop (bind1 2) (fun σ => (EV (n + 14)).ss σ mBody) ((List.range' i m).map dN) ⟨mEnv (dNs vs) (dNs ks) (textL (rowsTo vs ks i)) (dueL (rowsTo vs ks i)) tl, none⟩ = some (⟨mEnv (dNs vs) (dNs ks) (textL (rowsTo vs ks ks.length)) (dueL (rowsTo vs ks ks.length)) tl', none⟩, .next)
  | 0, i, tl, him, htl => by
    obtain rfl : i = ks.length := by omega
    exact ⟨tl, rfl⟩
  | m + 1, i, tl, him, htl => by
    have hi : i < ks.length := by omega
    have h4 : ks.getD i 0 < 4 := by
      rw [List.getD_eq_getElem?_getD, List.getElem?_eq_getElem hi]
      exact hk4 _ (List.getElem_mem hi)
    have l1 := textL_len (rowsTo vs ks i)
    have l2 := dueL_len (rowsTo vs ks i)
    rw [rowsTo_len] at l1 l2
    obtain ⟨tl1, ⟨a, b, c, h1⟩, h2⟩ := mBody_ok n vs ks (textL (rowsTo vs ks i)) (dueL (rowsTo vs ks i)) tl i hvs hv hi hks h4 (by omega) (by omega) htl
    obtain ⟨tl', h3⟩ := mLoop n vs ks hvs hv hks hk4 m (i + 1) tl1 (by omega) (.inr ⟨a, b, c, h1⟩)
    refine ⟨tl', ?_⟩
    rw [List.range'_succ, List.map_cons]
    have e1 : textL (rowsTo vs ks (i + 1)) = textL (rowsTo vs ks i) ++ (rowL (rowAt vs ks i).1 (rowAt vs ks i).2.1 ++ eolL (rowAt vs ks i).2.2) := by
      rw [rowsTo_succ]; unfold textL; rw [List.flatMap_append]; simp
    have e2 : dueL (rowsTo vs ks (i + 1)) = dueL (rowsTo vs ks i) ++ (dotL (rowAt vs ks i).1 ++ (rowL (rowAt vs ks i).1 (rowAt vs ks i).2.1 ++ [13, 10])) := by
      rw [rowsTo_succ]; unfold dueL; rw [List.flatMap_append]; simp
    rw [e1, e2] at h3
    exact l_cons h2 h3
theorem r_for1' {n k : Nat} {σ σ₁ : St} {it : I} {body body' r : List S} {ds : List D} {o : Option (St × Fl)} (hb : body = body') (hI : evalI (EV n) σ it = some ds) (hl : loop (bind1 k) (fun σ => (EV n).ss σ body') ds σ = some (σ₁, .next)) (hr : (EV n).ss σ₁ r = o) : (EV (n + 1)).ss σ (.for1 k it body :: r) = o := r_for1 hI (hb ▸ hl) hr
theorem empty_ok : (D.str "") = dS [] := by kernel_rfl
theorem mail_ok (n : Nat) (vs ks : List Nat) (hvs : vs.length = 5) (hv : ∀ i, i < 5 → vs.getD i 0 < 48) (hks : ks.length ≤ 20) (hk4 : ∀ k ∈ ks, k < 4) :
    (EV (n + 18)).f 2 [dNs vs, dNs ks] = some (.tup [dS (textL (rowsTo vs ks ks.length)), .bytes (by8 (dueL (rowsTo vs ks ks.length)))]) := by
  obtain ⟨tl', h⟩ := mLoop n vs ks hvs hv hks hk4 ks.length 0 [] (by omega) (.inl rfl)
  have l2 := dueL_len (rowsTo vs ks ks.length)
  rw [rowsTo_len] at l2
  refine r_f2 (n := n + 17) (p := 3) (q := 4) (body := mailB) (σ₁ := ⟨mEnv (dNs vs) (dNs ks) (textL (rowsTo vs ks ks.length)) (dueL (rowsTo vs ks ks.length)) tl', none⟩) rfl
    (r_asg (x := dS []) (by rw [← empty_ok]; rfl) (r_asg (x := dS []) (by rw [← empty_ok]; rfl) (r_for1' (body' := mBody) (ds := (List.range' 0 ks.length).map dN) rfl ?_ h (r_ret ?_))))
  · rw [← List.range_eq_range']
    exact i_range (r_len (x := dNs ks) rfl (by
      show (bif okLen (ks.map dN).length then some (D.int ((ks.map dN).length : Int)) else none) = _
      rw [List.length_map, okLen_of (by omega)]; rfl)) (by omega)
  · exact r_tup2 rfl (r_encode (x := dS (dueL (rowsTo vs ks ks.length))) rfl (enc_of _ (due_ascii _) (by omega)))
end Mine
open PySem PySem.W PyProof.Rows PySem.Calls
set_option linter.unusedVariables false
set_option maxRecDepth 100000
namespace Mine

noncomputable def pq (p : List UInt8) : Option (Int × Int) := match subD codeQ ((⟨p⟩ : Array UInt8).map (·.toNat)) #[] with
  | some o => some (cntB (o.map (·.toUInt8)) 40, cntB (o.map (·.toUInt8)) 41)
  | none => none
noncomputable def pqK : Nat → Int × Int
  | 0 => (1, 0)
  | 1 => (1, 1)
  | 2 => (0, 1)
  | _ => (0, 0)
theorem pq_all : (List.range 16).all (fun i => decide (pq (pieceL (i / 4) (i % 4)) = some (pqK (i / 4)))) = true := by decide +kernel
theorem pq_nil : pq [] = some (0, 0) := by decide +kernel
theorem pq_ok {k t : Nat} (hk : k < 4) (ht : t < 4) : pq (pieceL k t) = some (pqK k) := by
  have h := List.all_eq_true.mp pq_all (4 * k + t) (List.mem_range.mpr (by omega))
  have e1 : (4 * k + t) / 4 = k := by omega
  have e2 : (4 * k + t) % 4 = t := by omega
  rw [e1, e2] at h
  exact of_decide_eq_true h
theorem prim8_ok {p : List UInt8} {d a b : Int} (h : pq p = some (a, b)) : prim 8 [.bytes ⟨p⟩, .int d] = some (.int (d + a - b)) := by
  unfold pq at h
  show (match subD codeQ ((⟨p⟩ : Array UInt8).map (·.toNat)) #[] with
    | some o => some (D.int (d + cntB (o.map (fun (c : Nat) => c.toUInt8)) 40 - cntB (o.map (fun (c : Nat) => c.toUInt8)) 41))
    | none => none) = _
  cases hs : subD codeQ ((⟨p⟩ : Array UInt8).map (·.toNat)) #[] with
  | none => rw [hs] at h; cases h
  | some o =>
    rw [hs] at h
    injection h with h
    injection h with h1 h2
    rw [← h1, ← h2]
noncomputable def deltaK (k : Nat) : Int := (pqK k).1 - (pqK k).2
noncomputable def depthsGo : Int → List Nat → List Int
  | d, [] => [d]
  | d, k :: ks => d :: depthsGo (d + deltaK k) ks
noncomputable def sBody : List S := [.app (.var 5), .asg 5 (.call 8 [.var 13, .var 5])]
noncomputable def sEnv (L : D) (d : Int) (tl : List (Nat × D)) : List (Nat × D) := (11, L) :: (5, .int d) :: tl
theorem sBody_ok (n : Nat) (L : D) (p : List UInt8) (d a b : Int) (acc : List D) (tl : List (Nat × D)) (htl : tl = [] ∨ ∃ q, tl = [(13, q)]) (h : pq p = some (a, b)) (ha : acc.length ≤ 1000) :
    (EV (n + 5)).ss (St.put ⟨sEnv L d tl, some acc⟩ 13 (.bytes ⟨p⟩)) sBody = some (⟨sEnv L (d + a - b) [(13, .bytes ⟨p⟩)], some (acc ++ [.int d])⟩, .next) := by
  have e : (St.put ⟨sEnv L d tl, some acc⟩ 13 (.bytes ⟨p⟩)) = ⟨sEnv L d [(13, .bytes ⟨p⟩)], some acc⟩ := by rcases htl with rfl | ⟨q, rfl⟩ <;> rfl
  rw [e]
  refine r_app (x := .int d) rfl (by omega) (r_asg (x := .int (d + a - b)) (r_call2 (x := .bytes ⟨p⟩) (y := .int d) rfl rfl ?_) rfl)
  exact prim8_ok h
theorem sLoop (n : Nat) (L : D) : ∀ (ps : List (Nat × Nat)) (d : Int) (acc : List D) (tl : List (Nat × D)), (∀ p ∈ ps, p.1 < 4 ∧ p.2 < 4) → (tl = [] ∨ ∃ q, tl = [(13, q)]) → acc.length + ps.length ≤ 1000 →
    ∃ env, loop (bind1 13) (fun σ => (EV (n + 5)).ss σ sBody) ((ps.map fun p => D.bytes ⟨pieceL p.1 p.2⟩) ++ [.bytes #[]]) ⟨sEnv L d tl, some acc⟩ = some (⟨env, some (acc ++ (depthsGo d (ps.map (·.1))).map D.int)⟩, .next)
  | [], d, acc, tl, hp, htl, ha => by
    have h := sBody_ok n L [] d 0 0 acc tl htl pq_nil (by simpa using ha)
    exact ⟨_, l_cons h rfl⟩
  | p :: ps, d, acc, tl, hp, htl, ha => by
    have h4 := hp p (List.mem_cons_self ..)
    have h := sBody_ok n L (pieceL p.1 p.2) d (pqK p.1).1 (pqK p.1).2 acc tl htl (pq_ok h4.1 h4.2) (by simp only [List.length_cons] at ha; omega)
    obtain ⟨env, h2⟩ := sLoop n L ps (d + (pqK p.1).1 - (pqK p.1).2) (acc ++ [.int d]) [(13, .bytes ⟨pieceL p.1 p.2⟩)] (fun q hq => hp q (List.mem_cons_of_mem _ hq)) (.inr ⟨_, rfl⟩) (by simp only [List.length_append, List.length_cons, List.length_nil] at ha ⊢; omega)
    refine ⟨env, l_cons h (h2.trans ?_)⟩
    have e : d + (pqK p.1).1 - (pqK p.1).2 = d + deltaK p.1 := by unfold deltaK; omega
    rw [e, List.append_assoc]
    rfl
theorem r_retAcc {n : Nat} {env : List (Nat × D)} {ds : List D} {r : List S} : (EV (n + 1)).ss ⟨env, some ds⟩ (.retAcc :: r) = some (⟨env, some ds⟩, .ret (.lst ds)) := rfl
theorem depths_ok (n : Nat) (ps : List (Nat × Nat)) (hp : ∀ p ∈ ps, p.1 < 4 ∧ p.2 < 4) (hl : ps.length ≤ 100) : (EV (n + 9)).f 3 [.lst ((ps.map fun p => D.bytes ⟨pieceL p.1 p.2⟩) ++ [.bytes #[]])] = some (.lst ((depthsGo 0 (ps.map (·.1))).map D.int)) := by
  obtain ⟨env, h⟩ := sLoop n (.lst ((ps.map fun p => D.bytes ⟨pieceL p.1 p.2⟩) ++ [.bytes #[]])) ps 0 [] [] hp (.inl rfl) (by simp; omega)
  refine r_f1 (n := n + 8) (p := 11) (body := depthsB) rfl (r_asg (x := .int 0) rfl (r_acc (r_for1' (body' := sBody) rfl (i_seq rfl ?_) h r_retAcc)))
  exact okLen_of (by simp only [List.length_append, List.length_map, List.length_cons, List.length_nil]; omega)
end Mine
open PySem PySem.W PyProof.Rows PySem.Calls
set_option linter.unusedVariables false
set_option maxRecDepth 100000
namespace Mine

theorem lk_put (n m : Nat) (d : D) : ∀ ρ : List (Nat × D), look n (put m d ρ) = bif Nat.beq n m then some d else look n ρ
  | [] => rfl
  | (k, c) :: r => by
    show look n (bif Nat.beq m k then (m, d) :: r else (k, c) :: put m d r) = _
    cases h : Nat.beq m k with
    | true =>
      have e : m = k := Nat.eq_of_beq_eq_true h
      subst e
      show (bif Nat.beq n m then some d else look n r) = bif Nat.beq n m then some d else (bif Nat.beq n m then some c else look n r)
      cases Nat.beq n m <;> rfl
    | false =>
      show (bif Nat.beq n k then some c else look n (put m d r)) = _
      rw [lk_put n m d r]
      show _ = bif Nat.beq n m then some d else (bif Nat.beq n k then some c else look n r)
      cases h1 : Nat.beq n k with
      | false => rfl
      | true =>
        have e : n = k := Nat.eq_of_beq_eq_true h1
        subst e
        have : Nat.beq n m = false := by
          cases h2 : Nat.beq n m with
          | false => rfl
          | true => rw [Nat.eq_of_beq_eq_true h2, Nat.beq_refl] at h; cases h
        rw [this]; rfl
section
variable {n : Nat} {σ σ₁ : St} {a b : E} {x y z : D}
theorem r_for2' {k l : Nat} {it : I} {body body' r : List S} {ds : List D} {o : Option (St × Fl)} (hb : body = body') (hI : evalI (EV n) σ it = some ds) (hl : loop (bind2 k l) (fun σ => (EV n).ss σ body') ds σ = some (σ₁, .next)) (hr : (EV n).ss σ₁ r = o) : (EV (n + 1)).ss σ (.for2 k l it body :: r) = o := by
  subst hb
  refine r_step (σ₁ := σ₁) ?_ hr
  show (match evalI (EV n) σ it with | some ds => loop (bind2 k l) (fun σ => (EV n).ss σ body) ds σ | none => none) = _
  rw [hI]; exact hl
theorem l2_cons {k l : Nat} {ds : List D} {f : St → Option (St × Fl)} {o : Option (St × Fl)} (h : f ((σ.put k x).put l y) = some (σ₁, .next)) (hr : loop (bind2 k l) f ds σ₁ = o) : loop (bind2 k l) f (.tup [x, y] :: ds) σ = o := by
  show (match f ((σ.put k x).put l y) with | some (σ₂, .next) => loop (bind2 k l) f ds σ₂ | some (σ₂, .ret r) => some (σ₂, .ret r) | none => none) = _
  rw [h]; exact hr
theorem r_ifsT {t : T} {a b r : List S} {o : Option (St × Fl)} (ht : (EV n).t σ t = some true) (hb : (EV n).ss σ a = some (σ₁, .next)) (hr : (EV n).ss σ₁ r = o) : (EV (n + 1)).ss σ (.ifs t a b :: r) = o := by
  refine r_step (σ₁ := σ₁) ?_ hr
  show (match (EV n).t σ t with | some true => (EV n).ss σ a | some false => (EV n).ss σ b | none => none) = _
  rw [ht]; exact hb
theorem r_ifsF {t : T} {a b r : List S} {o : Option (St × Fl)} (ht : (EV n).t σ t = some false) (hb : (EV n).ss σ b = some (σ₁, .next)) (hr : (EV n).ss σ₁ r = o) : (EV (n + 1)).ss σ (.ifs t a b :: r) = o := by
  refine r_step (σ₁ := σ₁) ?_ hr
  show (match (EV n).t σ t with | some true => (EV n).ss σ a | some false => (EV n).ss σ b | none => none) = _
  rw [ht]; exact hb
theorem r_list1 (ha : (EV n).e σ a = some x) : (EV (n + 1)).e σ (.list [a]) = some (.lst [x]) := by
  show (match (match (EV n).e σ a with | some d => (match some [] with | some ds => some (d :: ds) | none => none) | none => none) with | some ds => (bif okLen ds.length then some (D.lst ds) else none) | none => none) = _
  rw [ha]; rfl
theorem b_cat {a b : List D} (h : a.length + b.length ≤ 100000) : binD .add (.lst a) (.lst b) = some (.lst (a ++ b)) := by
  show (bif okLen (a.length + b.length) then some (D.lst (a ++ b)) else none) = _
  rw [okLen_of h]; rfl
theorem b_sub {a b : Nat} (h : b ≤ a) : binD .sub (dN a) (dN b) = some (dN (a - b)) := by
  show some (D.int ((a : Int) - (b : Int))) = _
  rw [← Int.ofNat_sub h]
theorem cmp_eqN (a b : Nat) : cmpD .eq (dN a) (dN b) = some (decide (a = b)) := by
  show some ((a : Int) == (b : Int)) = _
  congr 1
  rw [Bool.eq_iff_iff, beq_iff_eq, decide_eq_true_iff]
  omega
theorem cmp_neN (a b : Nat) : cmpD .ne (dN a) (dN b) = some (a != b) := by
  show some ((a : Int) != (b : Int)) = _
  congr 1
  rw [Bool.eq_iff_iff, bne_iff_ne, bne_iff_ne]
  omega
theorem r_comp {elt : E} {k : Nat} {it : I} {fr : List Nat} {t : Option T} {ds ys : List D} (hI : evalI (EV n) σ it = some ds) (hc : compGo (EV n) elt k t (keepFr fr σ.env) ds = some ys) (h : ys.length ≤ 100000) : (EV (n + 1)).e σ (.comp elt k it fr t) = some (.lst ys) := by
  show (match evalI (EV n) σ it with | some ds => (match compGo (EV n) elt k t (keepFr fr σ.env) ds with | some ys => (bif okLen ys.length then some (D.lst ys) else none) | none => none) | none => none) = _
  rw [hI]
  show (match compGo (EV n) elt k t (keepFr fr σ.env) ds with | some ys => (bif okLen ys.length then some (D.lst ys) else none) | none => none) = _
  rw [hc]
  show (bif okLen ys.length then some (D.lst ys) else none) = _
  rw [okLen_of h]; rfl
theorem c_yes {elt : E} {k : Nat} {ρ : List (Nat × D)} {t : T} {ds ys : List D} {v : Ev} (ht : v.t ⟨(k, x) :: ρ, none⟩ t = some true) (h : v.e ⟨(k, x) :: ρ, none⟩ elt = some y) (hr : compGo v elt k (some t) ρ ds = some ys) : compGo v elt k (some t) ρ (x :: ds) = some (y :: ys) := by
  show (match v.t ⟨(k, x) :: ρ, none⟩ t with | some true => (match v.e ⟨(k, x) :: ρ, none⟩ elt with | some y => (match compGo v elt k (some t) ρ ds with | some ys => some (y :: ys) | none => none) | none => none) | some false => compGo v elt k (some t) ρ ds | none => none) = _
  rw [ht]
  show (match v.e ⟨(k, x) :: ρ, none⟩ elt with | some y => (match compGo v elt k (some t) ρ ds with | some ys => some (y :: ys) | none => none) | none => none) = _
  rw [h, hr]
theorem c_no {elt : E} {k : Nat} {ρ : List (Nat × D)} {t : T} {ds : List D} {v : Ev} {o : Option (List D)} (ht : v.t ⟨(k, x) :: ρ, none⟩ t = some false) (hr : compGo v elt k (some t) ρ ds = o) : compGo v elt k (some t) ρ (x :: ds) = o := by
  show (match v.t ⟨(k, x) :: ρ, none⟩ t with | some true => (match v.e ⟨(k, x) :: ρ, none⟩ elt with | some y => (match compGo v elt k (some t) ρ ds with | some ys => some (y :: ys) | none => none) | none => none) | some false => compGo v elt k (some t) ρ ds | none => none) = _
  rw [ht]; exact hr
end

noncomputable abbrev Arc := Nat × Nat
noncomputable abbrev Web := List Nat × List Arc
noncomputable abbrev dP (p : Arc) : D := .tup [dN p.1, dN p.2]
noncomputable abbrev dA (l : List Arc) : D := .lst (l.map dP)
noncomputable abbrev dW (w : Web) : D := .tup [dNs w.1, dA w.2]
noncomputable def shut (kind pl : Nat) (w : Web) (one : Nat) : Web := (w.1.filter (· != one) ++ List.replicate (2 - kind) pl, w.2 ++ [(one, pl)])
noncomputable def stepW (kind pl : Nat) (w : Web) : List Web := match kind with
  | 0 => [(w.1 ++ [pl], w.2)]
  | 3 => [w]
  | _ => w.1.map (shut kind pl w)

noncomputable def oBody : List S := [
  .asg 20 (.bin .add (.comp (.var 21) 21 (.seq (.var 17)) [19] (some (.cmp (.var 21) [.ne] [.var 19]))) (.rep (.var 15) (.bin .sub (.int 2) (.idx (.var 4) (.var 15))))),
  .app (.tup [.var 20, .bin .add (.var 18) (.list [.tup [.var 19, .var 15]])])]
noncomputable def wBody : List S := [ .ifs (.cmp (.idx (.var 4) (.var 15)) [.eq] [.int 0])
        [.app (.tup [.bin .add (.var 17) (.list [.var 15]), .var 18])]
        [.ifs (.cmp (.idx (.var 4) (.var 15)) [.eq] [.int 3])
          [.app (.tup [.var 17, .var 18])]
          [.for1 19 (.seq (.var 17)) oBody]]]
noncomputable def pBody : List S := [.acc, .for2 17 18 (.seq (.var 14)) wBody, .mov 14]

theorem filt_ok (n one : Nat) : ∀ L : List Nat, compGo (EV (n + 2)) (.var 21) 21 (some (.cmp (.var 21) [.ne] [.var 19])) [(19, dN one)] (L.map dN) = some ((L.filter (· != one)).map dN)
  | [] => rfl
  | x :: L => by
    have ht : (EV (n + 2)).t ⟨(21, dN x) :: [(19, dN one)], none⟩ (.cmp (.var 21) [.ne] [.var 19]) = some (x != one) := r_cmp1 (x := dN x) (y := dN one) rfl rfl (cmp_neN x one)
    cases h : (x != one) with
    | true =>
      rw [h] at ht
      rw [List.filter_cons, if_pos h]
      exact c_yes ht rfl (filt_ok n one L)
    | false =>
      rw [h] at ht
      rw [List.filter_cons, if_neg (by rw [h]; decide)]
      exact c_no ht (filt_ok n one L)

structure WE (env : List (Nat × D)) (ks : List Nat) (pl : Nat) (w : Web) : Prop where
  k : look 4 env = some (dNs ks)
  p : look 15 env = some (dN pl)
  l : look 17 env = some (dNs w.1)
  a : look 18 env = some (dA w.2)
theorem WE.put {env : List (Nat × D)} {ks : List Nat} {pl : Nat} {w : Web} (h : WE env ks pl w) {m : Nat} {d : D} (hm : m = 19 ∨ m = 20) : WE (put m d env) ks pl w := by
  rcases hm with rfl | rfl <;> exact ⟨by rw [lk_put]; exact h.k, by rw [lk_put]; exact h.p, by rw [lk_put]; exact h.l, by rw [lk_put]; exact h.a⟩

theorem oBody_ok (n : Nat) {env : List (Nat × D)} {ks : List Nat} {pl kind : Nat} {w : Web} (h : WE env ks pl w) (hk : ks[pl]? = some kind) (h2 : kind ≤ 2) (hpl : pl ≤ 100) (hL : w.1.length ≤ 100) (hA : w.2.length ≤ 100) (one : Nat) (acc : List D) (ha : acc.length ≤ 100000) :
    ∃ env', (EV (n + 7)).ss (St.put ⟨env, some acc⟩ 19 (dN one)) oBody = some (⟨env', some (acc ++ [dW (shut kind pl w one)])⟩, .next) ∧ WE env' ks pl w ∧ ∀ m, m ≠ 19 → m ≠ 20 → look m env' = look m env := by
  have h1 : WE (put 19 (dN one) env) ks pl w := h.put (.inl rfl)
  have hone : look 19 (put 19 (dN one) env) = some (dN one) := by rw [lk_put]; rfl
  have hidx : idxD (dNs ks) (dN pl) = some (dN kind) := by
    have hlt : pl < ks.length := (List.getElem?_eq_some_iff.mp hk).1
    rw [i_at hlt (by omega), List.getD_eq_getElem?_getD, hk]; rfl
  have hfl : (w.1.filter (· != one)).length ≤ 100 := Nat.le_trans (List.length_filter_le _ _) hL
  refine ⟨put 20 (dNs (shut kind pl w one).1) (put 19 (dN one) env), ?_, h1.put (.inr rfl), ?_⟩
  · refine r_asg (n := n + 6) (x := dNs (shut kind pl w one).1) (r_bin (x := dNs (w.1.filter (· != one))) (y := .lst (List.replicate (2 - kind) (dN pl))) ?_ (r_rep (r_var h1.p) (r_bin (x := dN 2) (y := dN kind) rfl (r_idx (r_var h1.k) (r_var h1.p) hidx) (b_sub h2)) (by omega)) ?_) ?_
    · refine r_comp (n := n + 4) (ds := w.1.map dN) (i_seq (r_var h1.l) (okLen_of (by rw [List.length_map]; omega))) ?_ (by rw [List.length_map]; omega)
      have : keepFr [19] (put 19 (dN one) env) = [(19, dN one)] := by
        unfold keepFr
        rw [List.filterMap_cons, hone]
        rfl
      show compGo (EV (n + 4)) _ _ _ (keepFr [19] (put 19 (dN one) env)) _ = _
      rw [this]
      exact filt_ok (n + 2) one w.1
    · rw [b_cat (by rw [List.length_map, List.length_replicate]; omega)]
      unfold dNs shut
      rw [List.map_append, List.map_replicate]
    · refine r_app (n := n + 5) (x := dW (shut kind pl w one)) ?_ ha r_nil
      have h3 : WE (put 20 (dNs (shut kind pl w one).1) (put 19 (dN one) env)) ks pl w := h1.put (.inr rfl)
      have h20 : look 20 (put 20 (dNs (shut kind pl w one).1) (put 19 (dN one) env)) = some (dNs (shut kind pl w one).1) := by rw [lk_put]; rfl
      have h19 : look 19 (put 20 (dNs (shut kind pl w one).1) (put 19 (dN one) env)) = some (dN one) := by rw [lk_put]; exact hone
      refine r_tup2 (n := n + 4) (r_var h20) (r_bin (x := dA w.2) (y := .lst [dP (one, pl)]) (r_var h3.a) (r_list1 (r_tup2 (r_var h19) (r_var h3.p))) ?_)
      rw [b_cat (by rw [List.length_map]; show _ + 1 ≤ _; omega)]
      unfold dA shut
      rw [List.map_append]
      rfl
  · intro m h19 h20
    rw [lk_put, lk_put]
    have e1 : Nat.beq m 19 = false := by cases h : Nat.beq m 19 with | false => rfl | true => exact absurd (Nat.eq_of_beq_eq_true h) h19
    have e2 : Nat.beq m 20 = false := by cases h : Nat.beq m 20 with | false => rfl | true => exact absurd (Nat.eq_of_beq_eq_true h) h20
    rw [e1, e2]; rfl
theorem oLoop (n : Nat) {ks : List Nat} {pl kind : Nat} {w : Web} (hk : ks[pl]? = some kind) (h2 : kind ≤ 2) (hpl : pl ≤ 100) (hL : w.1.length ≤ 100) (hA : w.2.length ≤ 100) : ∀ (os : List Nat) (env : List (Nat × D)) (acc : List D), WE env ks pl w → acc.length + os.length ≤ 100000 →
    ∃ env', loop (bind1 19) (fun σ => (EV (n + 7)).ss σ oBody) (os.map dN) ⟨env, some acc⟩ = some (⟨env', some (acc ++ (os.map (shut kind pl w)).map dW)⟩, .next) ∧ ∀ m, m ≠ 19 → m ≠ 20 → look m env' = look m env
  | [], env, acc, h, ha => ⟨env, by rw [List.map_nil, List.map_nil, List.map_nil, List.append_nil]; rfl, fun _ _ _ => rfl⟩
  | o :: os, env, acc, h, ha => by
    rw [List.length_cons] at ha
    obtain ⟨env1, e1, w1, k1⟩ := oBody_ok n h hk h2 hpl hL hA o acc (by omega)
    obtain ⟨env2, e2, k2⟩ := oLoop n hk h2 hpl hL hA os env1 (acc ++ [dW (shut kind pl w o)]) w1 (by rw [List.length_append]; show _ + 1 + _ ≤ _; omega)
    refine ⟨env2, l_cons e1 (e2.trans ?_), fun m a b => (k2 m a b).trans (k1 m a b)⟩
    rw [List.append_assoc]
    rfl
end Mine
open PySem PySem.W PyProof.Rows PySem.Calls
set_option linter.unusedVariables false
set_option maxRecDepth 100000
namespace Mine

theorem neqB {a b : Nat} (h : a ≠ b) : Nat.beq a b = false := by cases e : Nat.beq a b with | false => rfl | true => exact absurd (Nat.eq_of_beq_eq_true e) h
theorem lk_ne {n m : Nat} {d : D} {ρ : List (Nat × D)} (h : n ≠ m) : look n (put m d ρ) = look n ρ := by rw [lk_put, neqB h]; rfl
theorem lk_eq {n : Nat} {d : D} {ρ : List (Nat × D)} : look n (put n d ρ) = some d := by rw [lk_put, Nat.beq_refl]; rfl

theorem wBody_ok (n : Nat) {env : List (Nat × D)} {ks : List Nat} {pl kind : Nat} {w : Web} (h : WE env ks pl w) (hk : ks[pl]? = some kind) (h4 : kind < 4) (hpl : pl ≤ 100) (hL : w.1.length ≤ 99) (hA : w.2.length ≤ 99) (acc : List D) (ha : acc.length + (stepW kind pl w).length ≤ 100000) :
    ∃ env', (EV (n + 10)).ss ⟨env, some acc⟩ wBody = some (⟨env', some (acc ++ (stepW kind pl w).map dW)⟩, .next) ∧ ∀ m, m ≠ 19 → m ≠ 20 → look m env' = look m env := by
  have hidx : idxD (dNs ks) (dN pl) = some (dN kind) := by
    have hlt : pl < ks.length := (List.getElem?_eq_some_iff.mp hk).1
    rw [i_at hlt (by omega), List.getD_eq_getElem?_getD, hk]; rfl
  have t0 : (EV (n + 9)).t ⟨env, some acc⟩ (.cmp (.idx (.var 4) (.var 15)) [.eq] [.int 0]) = some (decide (kind = 0)) := r_cmp1 (n := n + 8) (x := dN kind) (y := dN 0) (r_idx (r_var h.k) (r_var h.p) hidx) rfl (cmp_eqN kind 0)
  have t3 : (EV (n + 8)).t ⟨env, some acc⟩ (.cmp (.idx (.var 4) (.var 15)) [.eq] [.int 3]) = some (decide (kind = 3)) := r_cmp1 (n := n + 7) (x := dN kind) (y := dN 3) (r_idx (r_var h.k) (r_var h.p) hidx) rfl (cmp_eqN kind 3)
  rcases lt4 h4 with rfl | rfl | rfl | rfl
  · refine ⟨env, r_ifsT (n := n + 9) t0 (r_app (n := n + 8) (x := dW (w.1 ++ [pl], w.2)) (r_tup2 (n := n + 7) (r_bin (n := n + 6) (x := dNs w.1) (y := dNs [pl]) (r_var h.l) (r_list1 (r_var h.p)) ?_) (r_var h.a)) (by omega) r_nil) r_nil, fun _ _ _ => rfl⟩
    rw [b_cat (by rw [List.length_map, List.length_map]; show _ + 1 ≤ _; omega)]
    unfold dNs
    rw [List.map_append]
  · have e : (stepW 1 pl w).length = w.1.length := List.length_map ..
    obtain ⟨env', h1, h2⟩ := oLoop n hk (by decide) hpl (by omega) (by omega) w.1 env acc h (by omega)
    exact ⟨env', r_ifsF (n := n + 9) t0 (r_ifsF (n := n + 8) t3 (r_for1' (n := n + 7) (body' := oBody) rfl (i_seq (n := n + 7) (r_var (n := n + 6) h.l) (okLen_of (by rw [List.length_map]; omega))) h1 r_nil) r_nil) r_nil, h2⟩
  · have e : (stepW 2 pl w).length = w.1.length := List.length_map ..
    obtain ⟨env', h1, h2⟩ := oLoop n hk (by decide) hpl (by omega) (by omega) w.1 env acc h (by omega)
    exact ⟨env', r_ifsF (n := n + 9) t0 (r_ifsF (n := n + 8) t3 (r_for1' (n := n + 7) (body' := oBody) rfl (i_seq (n := n + 7) (r_var (n := n + 6) h.l) (okLen_of (by rw [List.length_map]; omega))) h1 r_nil) r_nil) r_nil, h2⟩
  · exact ⟨env, r_ifsF (n := n + 9) t0 (r_ifsT (n := n + 8) t3 (r_app (n := n + 7) (x := dW w) (r_tup2 (n := n + 6) (r_var h.l) (r_var h.a)) (by omega) r_nil) r_nil) r_nil, fun _ _ _ => rfl⟩
theorem wLoop (n : Nat) {ks : List Nat} {pl kind : Nat} (hk : ks[pl]? = some kind) (h4 : kind < 4) (hpl : pl ≤ 100) : ∀ (ws : List Web) (env : List (Nat × D)) (acc : List D), (∀ w ∈ ws, w.1.length ≤ 99 ∧ w.2.length ≤ 99) → look 4 env = some (dNs ks) → look 15 env = some (dN pl) → acc.length + (ws.flatMap (stepW kind pl)).length ≤ 100000 →
    ∃ env', loop (bind2 17 18) (fun σ => (EV (n + 10)).ss σ wBody) (ws.map dW) ⟨env, some acc⟩ = some (⟨env', some (acc ++ (ws.flatMap (stepW kind pl)).map dW)⟩, .next) ∧ look 4 env' = some (dNs ks) ∧ look 15 env' = some (dN pl)
  | [], env, acc, hw, e4, e15, ha => ⟨env, by rw [List.flatMap_nil, List.map_nil, List.append_nil]; rfl, e4, e15⟩
  | w :: ws, env, acc, hw, e4, e15, ha => by
    rw [List.flatMap_cons, List.length_append] at ha
    have hw0 := hw w (List.mem_cons_self ..)
    have W : WE (put 18 (dA w.2) (put 17 (dNs w.1) env)) ks pl w := ⟨by rw [lk_ne (by decide), lk_ne (by decide)]; exact e4, by rw [lk_ne (by decide), lk_ne (by decide)]; exact e15, by rw [lk_ne (by decide)]; exact lk_eq, lk_eq⟩
    obtain ⟨env1, h1, k1⟩ := wBody_ok n W hk h4 hpl hw0.1 hw0.2 acc (by omega)
    obtain ⟨env2, h2, k2⟩ := wLoop n hk h4 hpl ws env1 (acc ++ (stepW kind pl w).map dW) (fun v hv => hw v (List.mem_cons_of_mem _ hv)) ((k1 4 (by decide) (by decide)).trans W.k) ((k1 15 (by decide) (by decide)).trans W.p) (by rw [List.length_append, List.length_map]; omega)
    refine ⟨env2, l2_cons h1 (h2.trans ?_), k2⟩
    rw [List.flatMap_cons, List.map_append, List.append_assoc]

noncomputable def websTo (ks : List Nat) : Nat → List Web
  | 0 => [([], [])]
  | i + 1 => (websTo ks i).flatMap (stepW (ks.getD i 0) i)
noncomputable def bndW : Nat → Nat
  | 0 => 1
  | i + 1 => bndW i * (i + 1)
theorem stepW_len {kind pl : Nat} {w : Web} {m : Nat} (h1 : w.1.length ≤ m) (h2 : w.2.length ≤ m) : (stepW kind pl w).length ≤ m + 1 ∧ ∀ v ∈ stepW kind pl w, v.1.length ≤ m + 1 ∧ v.2.length ≤ m + 1 := by
  have key : ∀ one, (shut kind pl w one).1.length ≤ m + 2 - kind ∨ True := fun _ => .inr trivial
  have hs : ∀ kind, 1 ≤ kind → ∀ one, (shut kind pl w one).1.length ≤ m + 1 ∧ (shut kind pl w one).2.length ≤ m + 1 := by
    intro kind hk one
    unfold shut
    have := List.length_filter_le (· != one) w.1
    simp only [List.length_append, List.length_replicate, List.length_cons, List.length_nil]
    omega
  match kind with
  | 0 =>
    refine ⟨by show 1 ≤ m + 1; omega, fun v hv => ?_⟩
    rw [List.mem_singleton.mp hv]
    simp only [List.length_append, List.length_cons, List.length_nil]
    omega
  | 1 =>
    refine ⟨by show (w.1.map _).length ≤ _; rw [List.length_map]; omega, fun v hv => ?_⟩
    obtain ⟨one, _, rfl⟩ := List.mem_map.mp hv
    exact hs 1 (by decide) one
  | 2 =>
    refine ⟨by show (w.1.map _).length ≤ _; rw [List.length_map]; omega, fun v hv => ?_⟩
    obtain ⟨one, _, rfl⟩ := List.mem_map.mp hv
    exact hs 2 (by decide) one
  | 3 =>
    refine ⟨by show 1 ≤ m + 1; omega, fun v hv => ?_⟩
    rw [List.mem_singleton.mp hv]
    omega
  | k + 4 =>
    refine ⟨by show (w.1.map _).length ≤ _; rw [List.length_map]; omega, fun v hv => ?_⟩
    obtain ⟨one, _, rfl⟩ := List.mem_map.mp hv
    exact hs (k + 4) (by omega) one
theorem flat_len {α β : Type} (f : α → List β) (m : Nat) : ∀ l : List α, (∀ a ∈ l, (f a).length ≤ m) → (l.flatMap f).length ≤ l.length * m
  | [], _ => Nat.zero_le _
  | a :: l, h => by
    have h1 := h a (List.mem_cons_self ..)
    have h2 := flat_len f m l (fun b hb => h b (List.mem_cons_of_mem _ hb))
    rw [List.flatMap_cons, List.length_append, List.length_cons, Nat.succ_mul]
    omega
theorem websTo_len (ks : List Nat) : ∀ i, (websTo ks i).length ≤ bndW i ∧ ∀ w ∈ websTo ks i, w.1.length ≤ i ∧ w.2.length ≤ i
  | 0 => ⟨Nat.le_refl _, fun w hw => by rw [List.mem_singleton.mp hw]; exact ⟨Nat.le_refl _, Nat.le_refl _⟩⟩
  | i + 1 => by
    obtain ⟨h1, h2⟩ := websTo_len ks i
    constructor
    · refine Nat.le_trans (flat_len (stepW (ks.getD i 0) i) (i + 1) _ fun w hw => ?_) (Nat.mul_le_mul_right _ h1)
      exact (stepW_len (h2 w hw).1 (h2 w hw).2).1
    · intro v hv
      obtain ⟨w, hw, hv⟩ := List.mem_flatMap.mp hv
      exact (stepW_len (h2 w hw).1 (h2 w hw).2).2 v hv
theorem bnd8 : ∀ i, i < 9 → bndW i ≤ 50000 := by decide

theorem pLoop (n : Nat) (ks : List Nat) (hks : ks.length ≤ 8) (hk4 : ∀ k ∈ ks, k < 4) : ∀ (m i : Nat) (env : List (Nat × D)), i + m = ks.length → look 4 env = some (dNs ks) → look 14 env = some (.lst ((websTo ks i).map dW)) →
    ∃ env', loop (bind1 15) (fun σ => (EV (n + 13)).ss σ pBody) ((List.range' i m).map dN) ⟨env, none⟩ = some (⟨env', none⟩, .next) ∧ look 14 env' = some (.lst ((websTo ks ks.length).map dW))
  | 0, i, env, him, e4, e14 => by
    obtain rfl : i = ks.length := by omega
    exact ⟨env, rfl, e14⟩
  | m + 1, i, env, him, e4, e14 => by
    have hi : i < ks.length := by omega
    have hk : ks[i]? = some (ks.getD i 0) := by rw [List.getD_eq_getElem?_getD, List.getElem?_eq_getElem hi]; rfl
    have h4 : ks.getD i 0 < 4 := by
      rw [List.getD_eq_getElem?_getD, List.getElem?_eq_getElem hi]
      exact hk4 _ (List.getElem_mem hi)
    obtain ⟨l1, l2⟩ := websTo_len ks i
    obtain ⟨l3, _⟩ := websTo_len ks (i + 1)
    have b1 := bnd8 i (by omega)
    have b2 := bnd8 (i + 1) (by omega)
    have e14' : look 14 (put 15 (dN i) env) = some (.lst ((websTo ks i).map dW)) := by rw [lk_ne (by decide)]; exact e14
    obtain ⟨env1, h1, k4, k15⟩ := wLoop (n + 1) hk h4 (by omega) (websTo ks i) (put 15 (dN i) env) [] (fun w hw => by have := l2 w hw; omega) (by rw [lk_ne (by decide)]; exact e4) lk_eq (by
      show 0 + (websTo ks (i + 1)).length ≤ _
      omega)
    obtain ⟨env2, h2, k2⟩ := pLoop n ks hks hk4 m (i + 1) (put 14 (.lst ((websTo ks (i + 1)).map dW)) env1) (by omega) (by rw [lk_ne (by decide)]; exact k4) lk_eq
    refine ⟨env2, ?_, k2⟩
    rw [List.range'_succ, List.map_cons]
    refine l_cons (σ₁ := ⟨put 14 (.lst ((websTo ks (i + 1)).map dW)) env1, none⟩) ?_ h2
    refine r_acc (n := n + 12) (r_for2' (n := n + 11) (σ₁ := ⟨env1, some ((websTo ks (i + 1)).map dW)⟩) (body' := wBody) (ds := (websTo ks i).map dW) rfl (i_seq (n := n + 11) (r_var (n := n + 10) e14') (okLen_of (by rw [List.length_map]; omega))) ?_ (r_step (n := n + 10) (σ₁ := ⟨put 14 (.lst ((websTo ks (i + 1)).map dW)) env1, none⟩) ?_ rfl))
    · exact h1
    · rfl
theorem arcs_ok (n : Nat) (ρ : List (Nat × D)) : ∀ ws : List Web, compGo (EV (n + 3)) (.idx (.var 22) (.int 1)) 22 none ρ (ws.map dW) = some (ws.map fun w => dA w.2)
  | [] => rfl
  | w :: ws => c_cons (r_idx (n := n + 2) (x := dW w) (y := .int 1) rfl rfl rfl) (arcs_ok n ρ ws)
theorem webs_ok (n : Nat) (ks : List Nat) (hks : ks.length ≤ 8) (hk4 : ∀ k ∈ ks, k < 4) : (EV (n + 17)).f 4 [dNs ks] = some (.lst ((websTo ks ks.length).map fun w => dA w.2)) := by
  obtain ⟨env, h1, h2⟩ := pLoop (n + 1) ks hks hk4 ks.length 0 [(4, dNs ks), (14, .lst ((websTo ks 0).map dW))] (by omega) rfl rfl
  obtain ⟨l1, _⟩ := websTo_len ks ks.length
  have b1 := bnd8 ks.length (by omega)
  refine r_f1 (n := n + 16) (p := 4) (body := websB) rfl (r_asg (n := n + 15) (x := .lst ((websTo ks 0).map dW)) rfl (r_for1' (n := n + 14) (body' := pBody) (ds := (List.range' 0 ks.length).map dN) rfl ?_ h1 (r_ret (n := n + 13) (r_comp (n := n + 12) (ds := (websTo ks ks.length).map dW) ?_ ?_ (by rw [List.length_map]; omega)))))
  · rw [← List.range_eq_range']
    exact i_range (n := n + 14) (r_len (n := n + 13) (x := dNs ks) rfl (by
      show (bif okLen (ks.map dN).length then some (D.int ((ks.map dN).length : Int)) else none) = _
      rw [List.length_map, okLen_of (by omega)]; rfl)) (by omega)
  · exact i_seq (n := n + 12) (r_var (n := n + 11) h2) (okLen_of (by rw [List.length_map]; omega))
  · exact arcs_ok (n + 9) _ _
end Mine
open PySem PySem.W PyProof.Rows PySem.Calls
set_option linter.unusedVariables false
set_option maxRecDepth 100000
namespace Mine

theorem inB_bin2 {n : Nat} (hn : 0 < n) : ∀ (f : Nat) (p : Array Nat) (k : Nat), AllLt n p → inB n (kas_bin f p k) (AllLt n)
  | 0, _, _, hp => hp
  | f + 1, p, k, hp => inB_bind _ (inB_place hn hp k _ _ _) fun l _ => inB_bin2 hn f _ _ (hp.perm (bubble_perm _ _ _))
theorem inB_sort2 {n : Nat} (hn : 0 < n) : inB n (kas_sort n) (AllLt n) :=
  inB_bind _ (inB_count hn n (p := List.toArray (List.range n)) fun i hi => by simpa using hi) fun r hr => by
    split
    · exact inB_bin2 hn _ _ _ hr
    · exact hr
theorem runK_inB {α : Type} {n : Nat} {P : α → Prop} {c : Nat → Nat → Bool} : ∀ (t : KasT α), inB n t P → P (runK c t)
  | .ret a, h => h
  | .ask i j k, h => runK_inB (k (c i j)) (h.2.2 _)
theorem runK_congr {α : Type} {n : Nat} {P : α → Prop} {c c' : Nat → Nat → Bool} (hc : ∀ i j, i < n → j < n → c i j = c' i j) : ∀ (t : KasT α), inB n t P → runK c t = runK c' t
  | .ret a, h => rfl
  | .ask i j k, h => by
    show runK c (k (c i j)) = runK c' (k (c' i j))
    rw [hc i j h.1 h.2.1]
    exact runK_congr hc _ (h.2.2 _)
noncomputable def sortG {α : Type} (lt : α → α → Bool) (d : α) (l : List α) : List α := bif Nat.ble 2 l.length then
    (runK (fun i j => lt (l.getD i d) (l.getD j d)) (kas_sort l.length)).toList.map (fun i => l.getD i d)
  else l
theorem sortD_gen {α : Type} {enc : α → D} {pr : α → Int × Int} {lt : α → α → Bool} {d : α} (he : ∀ a, enc a = .tup [.int (pr a).1, .int (pr a).2]) (hlt : ∀ a b, lt a b = ltInts [(pr a).1, (pr a).2] [(pr b).1, (pr b).2]) (l : List α) (hl : l.length < 64) : sortD (.lst (l.map enc)) = some (.lst ((sortG lt d l).map enc)) := by
  have hti : ∀ a, tupInts? (enc a) = some [(pr a).1, (pr a).2] := fun a => by rw [he]; rfl
  show (bif Nat.ble 64 (l.map enc).length then none else
    bif (l.map enc).all (fun d => (tupInts? d).any fun is => Nat.beq is.length 2) then
      bif Nat.ble 2 (l.map enc).length then
        some (D.lst ((runK (fun i j => ltInts ((((l.map enc)[i]?).bind tupInts?).getD []) ((((l.map enc)[j]?).bind tupInts?).getD [])) (kas_sort (l.map enc).length)).toList.map fun i => (l.map enc).getD i .none))
      else some (D.lst (l.map enc))
    else none) = _
  have h1 : Nat.ble 64 l.length = false := by
    cases h : Nat.ble 64 l.length with
    | false => rfl
    | true => have := Nat.le_of_ble_eq_true h; omega
  have h2 : (l.map enc).all (fun d => (tupInts? d).any fun is => Nat.beq is.length 2) = true := by
    rw [List.all_eq_true]
    intro x hx
    obtain ⟨a, _, rfl⟩ := List.mem_map.mp hx
    rw [hti]; rfl
  rw [List.length_map, h1, h2]
  unfold sortG
  cases h3 : Nat.ble 2 l.length with
  | false => rfl
  | true =>
    have hn : 0 < l.length := by have := Nat.le_of_ble_eq_true h3; omega
    have hin := inB_sort2 hn
    have hget : ∀ i, i < l.length → (((l.map enc)[i]?).bind tupInts?).getD [] = [(pr (l.getD i d)).1, (pr (l.getD i d)).2] := fun i hi => by
      rw [List.getElem?_map, List.getElem?_eq_getElem hi, List.getD_eq_getElem?_getD, List.getElem?_eq_getElem hi]
      show ((tupInts? (enc l[i])).getD []) = _
      rw [hti]; rfl
    have hcongr : runK (fun i j => ltInts ((((l.map enc)[i]?).bind tupInts?).getD []) ((((l.map enc)[j]?).bind tupInts?).getD [])) (kas_sort l.length) = runK (fun i j => lt (l.getD i d) (l.getD j d)) (kas_sort l.length) :=
      runK_congr (fun i j hi hj => by rw [hget i hi, hget j hj, hlt]) _ hin
    have hall : AllLt l.length (runK (fun i j => lt (l.getD i d) (l.getD j d)) (kas_sort l.length)) := runK_inB _ hin
    show some (D.lst _) = some (D.lst _)
    rw [hcongr]
    show some (D.lst (List.map _ _)) = some (D.lst (List.map _ (List.map _ _)))
    rw [List.map_map]
    congr 2
    apply List.map_congr_left
    intro i hi
    have hi' : i < l.length := hall i (Array.mem_toList_iff.mp hi)
    show (l.map enc).getD i .none = enc (l.getD i d)
    rw [List.getD_eq_getElem?_getD, List.getD_eq_getElem?_getD, List.getElem?_map, List.getElem?_eq_getElem hi']
    rfl
noncomputable def ltP (p q : Arc) : Bool := bif Nat.beq p.1 q.1 then Nat.blt p.2 q.2 else Nat.blt p.1 q.1
theorem blt_dec (a b : Nat) : Nat.blt a b = decide ((a : Int) < (b : Int)) := by
  rw [Bool.eq_iff_iff, decide_eq_true_iff]
  constructor
  · intro h; have : a < b := Nat.le_of_ble_eq_true h; omega
  · intro h; exact Nat.ble_eq_true_of_le (by show a + 1 ≤ b; omega)
theorem beq_int (a b : Nat) : Nat.beq a b = ((a : Int) == (b : Int)) := by
  rw [Bool.eq_iff_iff, beq_iff_eq]
  constructor
  · intro h; rw [Nat.eq_of_beq_eq_true h]
  · intro h; have : a = b := by omega
    rw [this, Nat.beq_refl]
theorem ltP_ok (p q : Arc) : ltP p q = ltInts [(p.1 : Int), (p.2 : Int)] [(q.1 : Int), (q.2 : Int)] := by
  unfold ltP
  show _ = bif ((p.1 : Int) == (q.1 : Int)) then (bif ((p.2 : Int) == (q.2 : Int)) then false else decide ((p.2 : Int) < (q.2 : Int))) else decide ((p.1 : Int) < (q.1 : Int))
  rw [← beq_int, ← beq_int, ← blt_dec, ← blt_dec]
  cases Nat.beq p.1 q.1 with
  | false => rfl
  | true =>
    cases h : Nat.beq p.2 q.2 with
    | false => rfl
    | true =>
      rw [Nat.eq_of_beq_eq_true h]
      show Nat.blt q.2 q.2 = false
      cases h2 : Nat.blt q.2 q.2 with
      | false => rfl
      | true => have : q.2 < q.2 := Nat.le_of_ble_eq_true h2; omega
noncomputable def sortP (l : List Arc) : List Arc := sortG ltP (0, 0) l
theorem sortP_ok (l : List Arc) (h : l.length < 64) : sortD (dA l) = some (dA (sortP l)) := sortD_gen (enc := dP) (pr := fun p => ((p.1 : Int), (p.2 : Int))) (fun _ => rfl) ltP_ok l h
noncomputable abbrev dI (p : Int × Int) : D := .tup [.int p.1, .int p.2]
noncomputable def ltI (p q : Int × Int) : Bool := ltInts [p.1, p.2] [q.1, q.2]
noncomputable def sortI (l : List (Int × Int)) : List (Int × Int) := sortG ltI (0, 0) l
theorem sortI_ok (l : List (Int × Int)) (h : l.length < 64) : sortD (.lst (l.map dI)) = some (.lst ((sortI l).map dI)) := sortD_gen (enc := dI) (pr := id) (fun _ => rfl) (fun _ _ => rfl) l h
theorem sortG_len {α : Type} (lt : α → α → Bool) (d : α) (l : List α) : True := trivial

noncomputable def bisRn (xs : List Nat) (x : Nat) : Nat → Nat → Nat → Nat
  | 0, lo, _ => lo
  | f + 1, lo, hi => bif Nat.ble hi lo then lo else
    bif Nat.blt x (xs.getD ((lo + hi) / 2) 0) then bisRn xs x f lo ((lo + hi) / 2) else bisRn xs x f ((lo + hi) / 2 + 1) hi
noncomputable def bisLn (xs : List Nat) (x : Nat) : Nat → Nat → Nat → Nat
  | 0, lo, _ => lo
  | f + 1, lo, hi => bif Nat.ble hi lo then lo else
    bif Nat.blt (xs.getD ((lo + hi) / 2) 0) x then bisLn xs x f ((lo + hi) / 2 + 1) hi else bisLn xs x f lo ((lo + hi) / 2)
theorem getD_cast (xs : List Nat) (i : Nat) : (xs.map fun (k : Nat) => (k : Int)).getD i 0 = ((xs.getD i 0 : Nat) : Int) := by
  rw [List.getD_eq_getElem?_getD, List.getD_eq_getElem?_getD, List.getElem?_map]
  cases xs[i]? <;> rfl
theorem bisR_cast (xs : List Nat) (x : Nat) : ∀ f lo hi, bisR (xs.map fun (k : Nat) => (k : Int)) (x : Int) f lo hi = bisRn xs x f lo hi
  | 0, _, _ => rfl
  | f + 1, lo, hi => by
    show (bif Nat.ble hi lo then lo else bif decide ((x : Int) < (xs.map fun (k : Nat) => (k : Int)).getD ((lo + hi) / 2) 0) then bisR (xs.map fun (k : Nat) => (k : Int)) (x : Int) f lo ((lo + hi) / 2) else bisR (xs.map fun (k : Nat) => (k : Int)) (x : Int) f ((lo + hi) / 2 + 1) hi) = _
    rw [getD_cast, ← blt_dec, bisR_cast xs x f, bisR_cast xs x f]
    rfl
theorem bisL_cast (xs : List Nat) (x : Nat) : ∀ f lo hi, bisL (xs.map fun (k : Nat) => (k : Int)) (x : Int) f lo hi = bisLn xs x f lo hi
  | 0, _, _ => rfl
  | f + 1, lo, hi => by
    show (bif Nat.ble hi lo then lo else bif decide ((xs.map fun (k : Nat) => (k : Int)).getD ((lo + hi) / 2) 0 < (x : Int)) then bisL (xs.map fun (k : Nat) => (k : Int)) (x : Int) f ((lo + hi) / 2 + 1) hi else bisL (xs.map fun (k : Nat) => (k : Int)) (x : Int) f lo ((lo + hi) / 2)) = _
    rw [getD_cast, ← blt_dec, bisL_cast xs x f, bisL_cast xs x f]
    rfl
noncomputable def bR (xs : List Nat) (x : Nat) : Nat := bisRn xs x (xs.length + 1) 0 xs.length
noncomputable def bL (xs : List Nat) (x : Nat) : Nat := bisLn xs x (xs.length + 1) 0 xs.length
theorem ints_cast : ∀ xs : List Nat, ints? (xs.map dN) = some (xs.map fun (k : Nat) => (k : Int))
  | [] => rfl
  | x :: xs => by
    show (match int? (dN x), ints? (xs.map dN) with | some i, some is => some (i :: is) | _, _ => none) = _
    rw [ints_cast xs]; rfl
section
variable {n : Nat} {env : List (Nat × D)} {a : E} {xs : List Nat} {x : Nat}
theorem r_accL (ha : (EV n).e ⟨env, some (xs.map dN)⟩ a = some (dN x)) (h : xs.length ≤ 1000) : (EV (n + 1)).e ⟨env, some (xs.map dN)⟩ (.accL a) = some (dN (bL xs x)) := by
  show (match ints? (xs.map dN) with
      | some is => (match (EV n).e ⟨env, some (xs.map dN)⟩ a with
        | some (.int x) => (bif okLen is.length then some (D.int (bisL is x (is.length + 1) 0 is.length)) else none)
        | _ => none)
      | none => none) = _
  rw [ints_cast, ha]
  show (bif okLen (xs.map fun (k : Nat) => (k : Int)).length then some (D.int (bisL (xs.map fun (k : Nat) => (k : Int)) (x : Int) ((xs.map fun (k : Nat) => (k : Int)).length + 1) 0 (xs.map fun (k : Nat) => (k : Int)).length)) else none) = _
  rw [bisL_cast, List.length_map, okLen_of (by omega)]
  rfl
theorem r_accR (ha : (EV n).e ⟨env, some (xs.map dN)⟩ a = some (dN x)) (h : xs.length ≤ 1000) : (EV (n + 1)).e ⟨env, some (xs.map dN)⟩ (.accR a) = some (dN (bR xs x)) := by
  show (match ints? (xs.map dN) with
      | some is => (match (EV n).e ⟨env, some (xs.map dN)⟩ a with
        | some (.int x) => (bif okLen is.length then some (D.int (bisR is x (is.length + 1) 0 is.length)) else none)
        | _ => none)
      | none => none) = _
  rw [ints_cast, ha]
  show (bif okLen (xs.map fun (k : Nat) => (k : Int)).length then some (D.int (bisR (xs.map fun (k : Nat) => (k : Int)) (x : Int) ((xs.map fun (k : Nat) => (k : Int)).length + 1) 0 (xs.map fun (k : Nat) => (k : Int)).length)) else none) = _
  rw [bisR_cast, List.length_map, okLen_of (by omega)]
  rfl
theorem r_accLen (h : xs.length ≤ 1000) : (EV (n + 1)).e ⟨env, some (xs.map dN)⟩ .accLen = some (dN xs.length) := by
  show (bif okLen (xs.map dN).length then some (D.int ((xs.map dN).length : Int)) else none) = _
  rw [List.length_map, okLen_of (by omega)]; rfl
theorem r_ins {r : List S} {o : Option (St × Fl)} (ha : (EV n).e ⟨env, some (xs.map dN)⟩ a = some (dN x)) (h : xs.length ≤ 1000) (hr : (EV n).ss ⟨env, some ((xs.take (bR xs x) ++ x :: xs.drop (bR xs x)).map dN)⟩ r = o) : (EV (n + 1)).ss ⟨env, some (xs.map dN)⟩ (.ins a :: r) = o := by
  refine r_step ?_ hr
  show (match (EV n).e ⟨env, some (xs.map dN)⟩ a with
    | some (.int x) => (match ints? (xs.map dN) with
        | some is => (bif okLen is.length then some ((⟨env, some ((xs.map dN).take (bisR is x (is.length + 1) 0 is.length) ++ D.int x :: (xs.map dN).drop (bisR is x (is.length + 1) 0 is.length))⟩ : St), Fl.next) else none)
        | none => none)
    | _ => none) = _
  rw [ints_cast, ha]
  show (bif okLen (xs.map fun (k : Nat) => (k : Int)).length then some ((⟨env, some ((xs.map dN).take (bisR (xs.map fun (k : Nat) => (k : Int)) (x : Int) ((xs.map fun (k : Nat) => (k : Int)).length + 1) 0 (xs.map fun (k : Nat) => (k : Int)).length) ++ D.int x :: (xs.map dN).drop (bisR (xs.map fun (k : Nat) => (k : Int)) (x : Int) ((xs.map fun (k : Nat) => (k : Int)).length + 1) 0 (xs.map fun (k : Nat) => (k : Int)).length))⟩ : St), Fl.next) else none) = _
  rw [bisR_cast, List.length_map, okLen_of (by omega), List.map_append, List.map_cons, List.map_take, List.map_drop]
  rfl
end
noncomputable abbrev TS := List Nat × Int × Int
noncomputable def tStep (st : TS) (p : Arc) : TS := (st.1.take (bR st.1 p.2) ++ p.2 :: st.1.drop (bR st.1 p.2), st.2.1 + (bL st.1 p.2 : Int) - (bR st.1 p.1 : Int), st.2.2 + (st.1.length : Int) - (bR st.1 p.2 : Int))
noncomputable def toldN (l : List Arc) : Int × Int := ((sortP l).foldl tStep ([], 0, 0)).2
noncomputable def tBody : List S := [
    .asg 24 (.bin .sub (.bin .add (.var 24) (.accL (.var 27))) (.accR (.var 26))),
    .asg 25 (.bin .sub (.bin .add (.var 25) .accLen) (.accR (.var 27))),
    .ins (.var 27)]
theorem ins_len (xs : List Nat) (x r : Nat) : (xs.take r ++ x :: xs.drop r).length = xs.length + 1 := by
  rw [List.length_append, List.length_cons, ← Nat.add_assoc, ← List.length_append, List.take_append_drop]
theorem tBody_ok (n : Nat) {env : List (Nat × D)} {st : TS} {p : Arc} (h24 : look 24 env = some (.int st.2.1)) (h25 : look 25 env = some (.int st.2.2)) (h26 : look 26 env = some (dN p.1)) (h27 : look 27 env = some (dN p.2)) (hl : st.1.length ≤ 1000) :
    ∃ env', (EV (n + 7)).ss ⟨env, some (st.1.map dN)⟩ tBody = some (⟨env', some ((tStep st p).1.map dN)⟩, .next) ∧ look 24 env' = some (.int (tStep st p).2.1) ∧ look 25 env' = some (.int (tStep st p).2.2) := by
  refine ⟨put 25 (.int (tStep st p).2.2) (put 24 (.int (tStep st p).2.1) env), ?_, by rw [lk_ne (by decide)]; exact lk_eq, lk_eq⟩
  refine r_asg (n := n + 6) (x := .int (tStep st p).2.1) (r_bin (n := n + 5) (x := .int (st.2.1 + (bL st.1 p.2 : Int))) (r_bin (n := n + 4) (r_var h24) (r_accL (n := n + 3) (r_var h27) hl) rfl) (r_accR (n := n + 4) (r_var h26) hl) rfl) ?_
  have g25 : look 25 (put 24 (.int (tStep st p).2.1) env) = some (.int st.2.2) := by rw [lk_ne (by decide)]; exact h25
  have g27 : look 27 (put 24 (.int (tStep st p).2.1) env) = some (dN p.2) := by rw [lk_ne (by decide)]; exact h27
  refine r_asg (n := n + 5) (x := .int (tStep st p).2.2) (r_bin (n := n + 4) (x := .int (st.2.2 + (st.1.length : Int))) (r_bin (n := n + 3) (r_var g25) (r_accLen (n := n + 2) hl) rfl) (r_accR (n := n + 3) (r_var g27) hl) rfl) ?_
  have k27 : look 27 (put 25 (.int (tStep st p).2.2) (put 24 (.int (tStep st p).2.1) env)) = some (dN p.2) := by rw [lk_ne (by decide)]; exact g27
  exact r_ins (n := n + 4) (x := p.2) (r_var k27) hl rfl
theorem tLoop (n : Nat) : ∀ (ps : List Arc) (env : List (Nat × D)) (st : TS), look 24 env = some (.int st.2.1) → look 25 env = some (.int st.2.2) → st.1.length + ps.length ≤ 1000 →
    ∃ env' acc', loop (bind2 26 27) (fun σ => (EV (n + 7)).ss σ tBody) (ps.map dP) ⟨env, some (st.1.map dN)⟩ = some (⟨env', acc'⟩, .next) ∧ look 24 env' = some (.int (ps.foldl tStep st).2.1) ∧ look 25 env' = some (.int (ps.foldl tStep st).2.2)
  | [], env, st, h24, h25, hl => ⟨env, _, rfl, h24, h25⟩
  | p :: ps, env, st, h24, h25, hl => by
    rw [List.length_cons] at hl
    obtain ⟨env1, e1, a1, b1⟩ := tBody_ok n (env := put 27 (dN p.2) (put 26 (dN p.1) env)) (st := st) (p := p) (by rw [lk_ne (by decide), lk_ne (by decide)]; exact h24) (by rw [lk_ne (by decide), lk_ne (by decide)]; exact h25) (by rw [lk_ne (by decide)]; exact lk_eq) lk_eq (by omega)
    have hl' : (tStep st p).1.length = st.1.length + 1 := ins_len _ _ _
    obtain ⟨env2, acc2, e2, a2, b2⟩ := tLoop n ps env1 (tStep st p) a1 b1 (by omega)
    exact ⟨env2, acc2, l2_cons e1 e2, a2, b2⟩
theorem r_sorted {n : Nat} {σ : St} {a : E} {x z : D} (ha : (EV n).e σ a = some x) (hz : sortD x = some z) : (EV (n + 1)).e σ (.sorted a) = some z := by
  show ((EV n).e σ a).bind sortD = _
  rw [ha]; exact hz
theorem sortG_length {α : Type} (lt : α → α → Bool) (d : α) (l : List α) (h : l.length < 2) : sortG lt d l = l := by
  unfold sortG
  have : Nat.ble 2 l.length = false := by
    cases h2 : Nat.ble 2 l.length with
    | false => rfl
    | true => have := Nat.le_of_ble_eq_true h2; omega
  rw [this]; rfl
theorem told_ok (n : Nat) (l : List Arc) (h : l.length < 64) (hs : (sortP l).length ≤ 1000) : (EV (n + 12)).f 5 [dA l] = some (dI (toldN l)) := by
  obtain ⟨env, acc, e, a, b⟩ := tLoop n (sortP l) [(18, dA l), (24, .int 0), (25, .int 0)] ([], 0, 0) rfl rfl (by simpa using hs)
  refine r_f1 (n := n + 11) (p := 18) (body := toldB) rfl (r_acc (n := n + 10) (r_asg (n := n + 9) (x := .int 0) rfl (r_asg (n := n + 8) (x := .int 0) rfl (r_for2' (n := n + 7) (body' := tBody) (ds := (sortP l).map dP) rfl (i_seq (n := n + 7) (r_sorted (n := n + 6) (x := dA l) rfl (sortP_ok l h)) (okLen_of (by rw [List.length_map]; omega))) e (r_ret (n := n + 6) (r_tup2 (n := n + 5) (r_var a) (r_var b)))))))
end Mine
open PySem PySem.W PyProof.Rows PySem.Calls
set_option linter.unusedVariables false
set_option maxRecDepth 100000
namespace Mine

theorem cmp_ltN (a b : Nat) : cmpD .lt (dN a) (dN b) = some (Nat.blt a b) := by
  show some (decide ((a : Int) < (b : Int))) = _
  rw [← blt_dec]
section
variable {n : Nat} {σ : St} {a b c d : E} {w x y z : D}
theorem ch_cons {v : Ev} {c₁ c₂ : Cm} {cs : List Cm} {e e' : E} {es : List E} {p q : Bool} (he : v.e σ e = some y) (hc : cmpD c₁ x y = some q) (hr : chainGo v σ y (c₂ :: cs) (e' :: es) = some p) : chainGo v σ x (c₁ :: c₂ :: cs) (e :: e' :: es) = some (q && p) := by
  show (match v.e σ e with | some y => (match cmpD c₁ x y with | some true => chainGo v σ y (c₂ :: cs) (e' :: es) | some false => some false | none => none) | none => none) = _
  rw [he]
  show (match cmpD c₁ x y with | some true => chainGo v σ y (c₂ :: cs) (e' :: es) | some false => some false | none => none) = _
  rw [hc]
  cases q with
  | false => rfl
  | true => exact hr
theorem ch_one {v : Ev} {c₁ : Cm} {e : E} {p : Bool} (he : v.e σ e = some y) (hc : cmpD c₁ x y = some p) : chainGo v σ x [c₁] [e] = some p := by
  show (match v.e σ e with | some y => cmpD c₁ x y | none => none) = _
  rw [he]; exact hc
theorem r_chain3 {k i j l : Nat} (ha : (EV n).e σ a = some (dN k)) (hb : (EV n).e σ b = some (dN i)) (hc : (EV n).e σ c = some (dN j)) (hd : (EV n).e σ d = some (dN l)) : (EV (n + 1)).t σ (.cmp a [.lt, .lt, .lt] [b, c, d]) = some (Nat.blt k i && (Nat.blt i j && Nat.blt j l)) := by
  show (match (EV n).e σ a with | some x => chainGo (EV n) σ x [.lt, .lt, .lt] [b, c, d] | none => none) = _
  rw [ha]
  exact ch_cons hb (cmp_ltN _ _) (ch_cons hc (cmp_ltN _ _) (ch_one hd (cmp_ltN _ _)))
theorem r_and {s t : T} {p q : Bool} (hs : (EV n).t σ s = some p) (ht : (EV n).t σ t = some q) : (EV (n + 1)).t σ (.and s t) = some (p && q) := by
  show (match (EV n).t σ s with | some true => (EV n).t σ t | some false => some false | none => none) = _
  rw [hs]
  cases p with
  | false => rfl
  | true => exact ht
theorem r_slcT {ds : List D} {k : Nat} (ha : (EV n).e σ a = some (.lst ds)) (hb : (EV n).e σ b = some (dN k)) (hk : k ≤ 1000) (hl : ds.length ≤ 1000) : (EV (n + 1)).e σ (.slcT a b) = some (.lst (ds.take k)) := by
  show (match (EV n).e σ a with | some x => (match (EV n).e σ b with | some y => slcD x 0 y | none => none) | none => none) = _
  rw [ha, hb]
  show (bif okLen k && okLen 0 && okLen ds.length then some (D.lst ((ds.take k).drop 0)) else none) = _
  rw [okLen_of (by omega), okLen_of (by omega), okLen_of (by omega)]
  rfl
theorem r_ifs {t : T} {q : Bool} {p₁ p₂ r : List S} {σ₁ σ₂ : St} {o : Option (St × Fl)} (ht : (EV n).t σ t = some q) (h1 : (EV n).ss σ p₁ = some (σ₁, .next)) (h2 : (EV n).ss σ p₂ = some (σ₂, .next)) (hr : (EV n).ss (bif q then σ₁ else σ₂) r = o) : (EV (n + 1)).ss σ (.ifs t p₁ p₂ :: r) = o := by
  cases q with
  | true => exact r_ifsT ht h1 hr
  | false => exact r_ifsF ht h2 hr
end
noncomputable abbrev QS := Nat × Nat
noncomputable def qStep (q : Arc) (st : QS) (p : Arc) : QS := (bif Nat.blt p.1 q.1 && (Nat.blt q.1 p.2 && Nat.blt p.2 q.2) then st.1 + 1 else st.1, bif Nat.blt q.1 p.1 && Nat.blt p.2 q.2 then st.2 + 1 else st.2)
noncomputable def pairsTo (l : List Arc) : Nat → QS
  | 0 => (0, 0)
  | k + 1 => (l.take k).foldl (qStep (l.getD k (0, 0))) (pairsTo l k)
noncomputable def pairsN (l : List Arc) : QS := pairsTo l l.length
noncomputable def qBody : List S := [
  .ifs (.cmp (.var 28) [.lt, .lt, .lt] [.idx (.idx (.var 18) (.var 2)) (.int 0), .var 29, .idx (.idx (.var 18) (.var 2)) (.int 1)])
        [.asg 24 (.bin .add (.var 24) (.int 1))] [],
  .ifs (.and (.cmp (.idx (.idx (.var 18) (.var 2)) (.int 0)) [.lt] [.var 28]) (.cmp (.var 29) [.lt] [.idx (.idx (.var 18) (.var 2)) (.int 1)]))
        [.asg 25 (.bin .add (.var 25) (.int 1))] []]
noncomputable def qOut : List S := [.for2 28 29 (.seq (.slcT (.var 18) (.var 2))) qBody]
structure QE (env : List (Nat × D)) (l : List Arc) (k : Nat) (st : QS) : Prop where
  l : look 18 env = some (dA l)
  k : look 2 env = some (dN k)
  c : look 24 env = some (dN st.1)
  h : look 25 env = some (dN st.2)
theorem a_at {l : List Arc} {k : Nat} (hk : k < l.length) (h : k ≤ 1000) : idxD (dA l) (dN k) = some (dP (l.getD k (0, 0))) := by
  show (bif okInt (k : Int) then (l.map dP)[k]? else none) = _
  rw [show okInt (k : Int) = true from Nat.ble_eq_true_of_le (by show k ≤ _; omega), List.getElem?_map, List.getElem?_eq_getElem hk, List.getD_eq_getElem?_getD, List.getElem?_eq_getElem hk]
  rfl
theorem qBody_ok (n : Nat) {env : List (Nat × D)} {l : List Arc} {k : Nat} {st : QS} {p : Arc} (h : QE env l k st) (hk : k < l.length) (hl : l.length ≤ 1000) (h28 : look 28 env = some (dN p.1)) (h29 : look 29 env = some (dN p.2)) :
    ∃ env', (EV (n + 8)).ss ⟨env, none⟩ qBody = some (⟨env', none⟩, .next) ∧ QE env' l k (qStep (l.getD k (0, 0)) st p) := by
  have hat := a_at hk (by omega)
  generalize hq : l.getD k (0, 0) = q at hat
  have h0 : ∀ m env (h18 : look 18 env = some (dA l)) (h2 : look 2 env = some (dN k)), (EV (m + 3)).e ⟨env, none⟩ (.idx (.idx (.var 18) (.var 2)) (.int 0)) = some (dN q.1) := fun m env h18 h2 => r_idx (n := m + 2) (x := dP q) (y := .int 0) (r_idx (n := m + 1) (r_var h18) (r_var h2) hat) rfl rfl
  have h1 : ∀ m env (h18 : look 18 env = some (dA l)) (h2 : look 2 env = some (dN k)), (EV (m + 3)).e ⟨env, none⟩ (.idx (.idx (.var 18) (.var 2)) (.int 1)) = some (dN q.2) := fun m env h18 h2 => r_idx (n := m + 2) (x := dP q) (y := .int 1) (r_idx (n := m + 1) (r_var h18) (r_var h2) hat) rfl rfl
  have t1 : (EV (n + 7)).t ⟨env, none⟩ (.cmp (.var 28) [.lt, .lt, .lt] [.idx (.idx (.var 18) (.var 2)) (.int 0), .var 29, .idx (.idx (.var 18) (.var 2)) (.int 1)]) = some (Nat.blt p.1 q.1 && (Nat.blt q.1 p.2 && Nat.blt p.2 q.2)) :=
    r_chain3 (n := n + 6) (r_var h28) (h0 (n + 3) env h.l h.k) (r_var h29) (h1 (n + 3) env h.l h.k)
  -- the first question
  have s1 : ∃ env1, (bif (Nat.blt p.1 q.1 && (Nat.blt q.1 p.2 && Nat.blt p.2 q.2)) then St.put ⟨env, none⟩ 24 (dN (st.1 + 1)) else ⟨env, none⟩) = ⟨env1, none⟩ ∧ QE env1 l k ((qStep q st p).1, st.2) ∧ look 28 env1 = some (dN p.1) ∧ look 29 env1 = some (dN p.2) := by
    unfold qStep
    cases (Nat.blt p.1 q.1 && (Nat.blt q.1 p.2 && Nat.blt p.2 q.2)) with
    | true => exact ⟨_, rfl, ⟨by rw [lk_ne (by decide)]; exact h.l, by rw [lk_ne (by decide)]; exact h.k, lk_eq, by rw [lk_ne (by decide)]; exact h.h⟩, by rw [lk_ne (by decide)]; exact h28, by rw [lk_ne (by decide)]; exact h29⟩
    | false => exact ⟨_, rfl, ⟨h.l, h.k, h.c, h.h⟩, h28, h29⟩
  obtain ⟨env1, e1, g, g28, g29⟩ := s1
  have t2 : (EV (n + 6)).t ⟨env1, none⟩ (.and (.cmp (.idx (.idx (.var 18) (.var 2)) (.int 0)) [.lt] [.var 28]) (.cmp (.var 29) [.lt] [.idx (.idx (.var 18) (.var 2)) (.int 1)])) = some (Nat.blt q.1 p.1 && Nat.blt p.2 q.2) :=
    r_and (n := n + 5) (r_cmp1 (n := n + 4) (h0 (n + 1) env1 g.l g.k) (r_var g28) (cmp_ltN _ _)) (r_cmp1 (n := n + 4) (r_var g29) (h1 (n + 1) env1 g.l g.k) (cmp_ltN _ _))
  have s2 : ∃ env2, (bif (Nat.blt q.1 p.1 && Nat.blt p.2 q.2) then St.put ⟨env1, none⟩ 25 (dN (st.2 + 1)) else ⟨env1, none⟩) = ⟨env2, none⟩ ∧ QE env2 l k (qStep q st p) := by
    unfold qStep at g ⊢
    cases (Nat.blt q.1 p.1 && Nat.blt p.2 q.2) with
    | true => exact ⟨_, rfl, ⟨by rw [lk_ne (by decide)]; exact g.l, by rw [lk_ne (by decide)]; exact g.k, by rw [lk_ne (by decide)]; exact g.c, lk_eq⟩⟩
    | false => exact ⟨_, rfl, ⟨g.l, g.k, g.c, g.h⟩⟩
  obtain ⟨env2, e2, g2⟩ := s2
  refine ⟨env2, r_ifs (n := n + 7) t1 (r_asg (n := n + 6) (x := dN (st.1 + 1)) (r_bin (n := n + 5) (x := dN st.1) (y := dN 1) (r_var h.c) rfl rfl) r_nil) r_nil ?_, g2⟩
  rw [e1]
  refine r_ifs (n := n + 6) t2 (r_asg (n := n + 5) (x := dN (st.2 + 1)) (r_bin (n := n + 4) (x := dN st.2) (y := dN 1) (r_var g.h) rfl rfl) r_nil) r_nil ?_
  rw [e2]
  rfl
theorem qLoop (n : Nat) {l : List Arc} {k : Nat} (hk : k < l.length) (hl : l.length ≤ 1000) : ∀ (ps : List Arc) (env : List (Nat × D)) (st : QS), QE env l k st →
    ∃ env', loop (bind2 28 29) (fun σ => (EV (n + 8)).ss σ qBody) (ps.map dP) ⟨env, none⟩ = some (⟨env', none⟩, .next) ∧ QE env' l k (ps.foldl (qStep (l.getD k (0, 0))) st)
  | [], env, st, h => ⟨env, rfl, h⟩
  | p :: ps, env, st, h => by
    have h' : QE (put 29 (dN p.2) (put 28 (dN p.1) env)) l k st := ⟨by rw [lk_ne (by decide), lk_ne (by decide)]; exact h.l, by rw [lk_ne (by decide), lk_ne (by decide)]; exact h.k, by rw [lk_ne (by decide), lk_ne (by decide)]; exact h.c, by rw [lk_ne (by decide), lk_ne (by decide)]; exact h.h⟩
    obtain ⟨env1, e1, g1⟩ := qBody_ok n (p := p) h' hk hl (by rw [lk_ne (by decide)]; exact lk_eq) lk_eq
    obtain ⟨env2, e2, g2⟩ := qLoop n hk hl ps env1 _ g1
    exact ⟨env2, l2_cons e1 e2, g2⟩
theorem qqLoop (n : Nat) (l : List Arc) (hl : l.length ≤ 1000) : ∀ (m i : Nat) (env : List (Nat × D)), i + m = l.length → look 18 env = some (dA l) → look 24 env = some (dN (pairsTo l i).1) → look 25 env = some (dN (pairsTo l i).2) →
    ∃ env', loop (bind1 2) (fun σ => (EV (n + 10)).ss σ qOut) ((List.range' i m).map dN) ⟨env, none⟩ = some (⟨env', none⟩, .next) ∧ look 24 env' = some (dN (pairsN l).1) ∧ look 25 env' = some (dN (pairsN l).2)
  | 0, i, env, him, h18, h24, h25 => by
    obtain rfl : i = l.length := by omega
    exact ⟨env, rfl, h24, h25⟩
  | m + 1, i, env, him, h18, h24, h25 => by
    have hi : i < l.length := by omega
    have g : QE (put 2 (dN i) env) l i (pairsTo l i) := ⟨by rw [lk_ne (by decide)]; exact h18, lk_eq, by rw [lk_ne (by decide)]; exact h24, by rw [lk_ne (by decide)]; exact h25⟩
    obtain ⟨env1, e1, g1⟩ := qLoop (n + 1) hi hl (l.take i) (put 2 (dN i) env) _ g
    obtain ⟨env2, e2, a, b⟩ := qqLoop n l hl m (i + 1) env1 (by omega) g1.l g1.c g1.h
    refine ⟨env2, ?_, a, b⟩
    rw [List.range'_succ, List.map_cons]
    have hs := r_slcT (n := n + 8) (σ := ⟨put 2 (dN i) env, none⟩) (a := .var 18) (b := .var 2) (r_var g.l) (r_var g.k) (by omega) (by rw [List.length_map]; omega)
    rw [← List.map_take] at hs
    refine l_cons (σ₁ := ⟨env1, none⟩) ?_ e2
    exact r_for2' (n := n + 9) (σ₁ := ⟨env1, none⟩) (body' := qBody) rfl (i_seq (n := n + 9) hs (okLen_of (by rw [List.length_map, List.length_take]; omega))) e1 r_nil
theorem pairs_ok (n : Nat) (l : List Arc) (hl : l.length ≤ 1000) : (EV (n + 14)).f 6 [dA l] = some (.tup [dN (pairsN l).1, dN (pairsN l).2]) := by
  obtain ⟨env, e, a, b⟩ := qqLoop n l hl l.length 0 [(18, dA l), (24, dN 0), (25, dN 0)] (by omega) rfl rfl rfl
  refine r_f1 (n := n + 13) (p := 18) (body := pairsB) rfl (r_asg (n := n + 12) (x := dN 0) rfl (r_asg (n := n + 11) (x := dN 0) rfl (r_for1' (n := n + 10) (body' := qOut) (ds := (List.range' 0 l.length).map dN) rfl ?_ e (r_ret (n := n + 9) (r_tup2 (n := n + 8) (r_var a) (r_var b))))))
  rw [← List.range_eq_range']
  exact i_range (n := n + 10) (r_len (n := n + 9) (x := dA l) rfl (by
    show (bif okLen (l.map dP).length then some (D.int ((l.map dP).length : Int)) else none) = _
    rw [List.length_map, okLen_of (by omega)]; rfl)) (by omega)
end Mine
open PySem PySem.W PyProof.Rows PySem.Calls
set_option linter.unusedVariables false
set_option maxRecDepth 100000
namespace Mine

theorem ints_D : ∀ xs : List Int, ints? (xs.map D.int) = some xs
  | [] => rfl
  | x :: xs => by
    show (match int? (D.int x), ints? (xs.map D.int) with | some i, some is => some (i :: is) | _, _ => none) = _
    rw [ints_D xs]; rfl
theorem sum_cast : ∀ xs : List Nat, (xs.map fun (k : Nat) => (k : Int)).sum = ((xs.sum : Nat) : Int)
  | [] => rfl
  | x :: xs => by rw [List.map_cons, List.sum_cons, List.sum_cons, sum_cast xs]; omega
theorem sumD_N (xs : List Nat) (h : xs.length ≤ 1000) : sumD (dNs xs) = some (dN xs.sum) := by
  show (match ints? (xs.map dN) with | some is => (bif okLen (xs.map dN).length then some (D.int is.sum) else none) | none => none) = _
  rw [ints_cast, List.length_map, okLen_of (by omega)]
  show some (D.int (xs.map fun (k : Nat) => (k : Int)).sum) = _
  rw [sum_cast]
theorem lenD_N (xs : List Nat) (h : xs.length ≤ 1000) : lenD (dNs xs) = some (dN xs.length) := by
  show (bif okLen (xs.map dN).length then some (D.int ((xs.map dN).length : Int)) else none) = _
  rw [List.length_map, okLen_of (by omega)]; rfl
section
variable {n : Nat} {σ : St} {a b c d : E} {w x y z : D}
theorem r_sum (ha : (EV n).e σ a = some x) (hz : sumD x = some z) : (EV (n + 1)).e σ (.sum a) = some z := by
  show ((EV n).e σ a).bind sumD = _
  rw [ha]; exact hz
theorem r_max (ha : (EV n).e σ a = some x) (hb : (EV n).e σ b = some y) (hz : maxD x y = some z) : (EV (n + 1)).e σ (.max a b) = some z := by
  show (match (EV n).e σ a with | some x => (match (EV n).e σ b with | some y => maxD x y | none => none) | none => none) = _
  rw [ha, hb]; exact hz
theorem r_slc {xs : List Nat} {l h : Nat} (ha : (EV n).e σ a = some (dNs xs)) (hb : (EV n).e σ b = some (dN l)) (hc : (EV n).e σ c = some (dN h)) (h1 : xs.length ≤ 1000) (h2 : l ≤ 1000) (h3 : h ≤ 1000) : (EV (n + 1)).e σ (.slc a b c) = some (dNs ((xs.take h).drop l)) := by
  show (match (EV n).e σ a with | some x => (match (EV n).e σ b with | some (.int (.ofNat l)) => (match (EV n).e σ c with | some y => slcD x l y | none => none) | _ => none) | none => none) = _
  rw [ha, hb]
  show (match (EV n).e σ c with | some y => slcD (dNs xs) l y | none => none) = _
  rw [hc]
  show (bif okLen h && okLen l && okLen (xs.map dN).length then some (D.lst (((xs.map dN).take h).drop l)) else none) = _
  rw [List.length_map, okLen_of (by omega), okLen_of (by omega), okLen_of (by omega), ← List.map_take, ← List.map_drop]
  rfl
end
noncomputable def spStep (cs : List Nat) (h : Nat) : List Nat := (List.range (cs.length + h - 1)).map fun k => ((cs.take (k + 1)).drop (k + 1 - h)).sum
noncomputable def spreadN (hs : List Nat) : List Nat := hs.foldl spStep [1]
noncomputable def sElt : E := .sum (.slc (.var 30) (.max (.int 0) (.bin .add (.bin .sub (.var 2) (.var 31)) (.int 1))) (.bin .add (.var 2) (.int 1)))
noncomputable def hBody : List S := [.asg 30 (.comp sElt 2 (.range (.bin .sub (.bin .add (.len (.var 30)) (.var 31)) (.int 1))) [30, 31] none)]
theorem sElt_ok (n : Nat) (cs : List Nat) (h k : Nat) (hc : cs.length ≤ 900) (hk : k ≤ 900) : (EV (n + 6)).e ⟨(2, dN k) :: [(30, dNs cs), (31, dN h)], none⟩ sElt = some (dN ((cs.take (k + 1)).drop (k + 1 - h)).sum) := by
  refine r_sum (n := n + 5) (r_slc (n := n + 4) (l := k + 1 - h) (h := k + 1) (r_var rfl) (r_max (n := n + 3) (x := dN 0) (y := .int ((k : Int) - (h : Int) + 1)) rfl (r_bin (n := n + 2) (x := .int ((k : Int) - (h : Int))) (y := .int 1) (r_bin (n := n + 1) (x := dN k) (y := dN h) rfl rfl rfl) rfl rfl) ?_) (r_bin (n := n + 3) (x := dN k) (y := dN 1) rfl rfl rfl) (by omega) (by omega) (by omega)) (sumD_N _ ?_)
  · show some (D.int (bif decide ((0 : Int) < (k : Int) - (h : Int) + 1) then (k : Int) - (h : Int) + 1 else 0)) = some (D.int (((k + 1 - h : Nat)) : Int))
    congr 2
    by_cases c : (0 : Int) < (k : Int) - (h : Int) + 1
    · rw [decide_eq_true c]; show (k : Int) - (h : Int) + 1 = _; omega
    · rw [decide_eq_false c]; show (0 : Int) = _; omega
  · rw [List.length_drop, List.length_take]; omega
theorem sComp (n : Nat) (cs : List Nat) (h : Nat) (hc : cs.length ≤ 900) : ∀ l : List Nat, (∀ k ∈ l, k ≤ 900) → compGo (EV (n + 6)) sElt 2 none [(30, dNs cs), (31, dN h)] (l.map dN) = some ((l.map fun k => ((cs.take (k + 1)).drop (k + 1 - h)).sum).map dN)
  | [], _ => rfl
  | k :: l, hl => c_cons (sElt_ok n cs h k hc (hl k (List.mem_cons_self ..))) (sComp n cs h hc l fun j hj => hl j (List.mem_cons_of_mem _ hj))
theorem hBody_ok (n : Nat) {env : List (Nat × D)} {cs : List Nat} {h : Nat} (h30 : look 30 env = some (dNs cs)) (h31 : look 31 env = some (dN h)) (h1 : 1 ≤ h) (hc : cs.length + h ≤ 900) : (EV (n + 10)).ss ⟨env, none⟩ hBody = some (⟨put 30 (dNs (spStep cs h)) env, none⟩, .next) := by
  have hk : keepFr [30, 31] env = [(30, dNs cs), (31, dN h)] := by
    unfold keepFr
    rw [List.filterMap_cons, h30]
    show _ :: List.filterMap _ [31] = _
    rw [List.filterMap_cons, h31]
    rfl
  refine r_asg (n := n + 9) (x := dNs (spStep cs h)) (r_comp (n := n + 8) (ds := (List.range (cs.length + h - 1)).map dN) (i_range (n := n + 8) (r_bin (n := n + 7) (x := dN (cs.length + h)) (y := dN 1) (r_bin (n := n + 6) (x := dN cs.length) (y := dN h) (r_len (n := n + 5) (r_var h30) (lenD_N cs (by omega))) (r_var h31) ?_) rfl (b_sub (by omega))) (by omega)) ?_ ?_) rfl
  · rfl
  · show compGo (EV (n + 8)) sElt 2 none (keepFr [30, 31] env) _ = _
    rw [hk]
    exact sComp (n + 2) cs h (by omega) _ fun k hk => by have := List.mem_range.mp hk; omega
  · rw [List.length_map]; unfold spStep; rw [List.length_map, List.length_range]; omega
theorem spStep_len (cs : List Nat) (h : Nat) : (spStep cs h).length = cs.length + h - 1 := by unfold spStep; rw [List.length_map, List.length_range]
theorem hLoop (n : Nat) : ∀ (hs : List Nat) (env : List (Nat × D)) (cs : List Nat), look 30 env = some (dNs cs) → (∀ h ∈ hs, 1 ≤ h) → cs.length + hs.sum ≤ 900 →
    ∃ env', loop (bind1 31) (fun σ => (EV (n + 10)).ss σ hBody) (hs.map dN) ⟨env, none⟩ = some (⟨env', none⟩, .next) ∧ look 30 env' = some (dNs (hs.foldl spStep cs))
  | [], env, cs, h30, h1, hl => ⟨env, rfl, h30⟩
  | h :: hs, env, cs, h30, h1, hl => by
    rw [List.sum_cons] at hl
    have e1 := hBody_ok n (env := put 31 (dN h) env) (cs := cs) (h := h) (by rw [lk_ne (by decide)]; exact h30) lk_eq (h1 h (List.mem_cons_self ..)) (by omega)
    obtain ⟨env2, e2, k2⟩ := hLoop n hs (put 30 (dNs (spStep cs h)) (put 31 (dN h) env)) (spStep cs h) lk_eq (fun j hj => h1 j (List.mem_cons_of_mem _ hj)) (by rw [spStep_len]; omega)
    exact ⟨env2, l_cons e1 e2, k2⟩
theorem spread_ok (n : Nat) (hs : List Nat) (h1 : ∀ h ∈ hs, 1 ≤ h) (hl : hs.sum ≤ 800) (hl2 : hs.length ≤ 800) : (EV (n + 13)).f 7 [dNs hs] = some (dNs (spreadN hs)) := by
  obtain ⟨env, e, k⟩ := hLoop n hs [(32, dNs hs), (30, dNs [1])] [1] rfl h1 (by show 1 + hs.sum ≤ 900; omega)
  exact r_f1 (n := n + 12) (p := 32) (body := spreadB) rfl (r_asg (n := n + 11) (x := dNs [1]) rfl (r_for1' (n := n + 10) (body' := hBody) (ds := hs.map dN) rfl (i_seq (n := n + 10) rfl (okLen_of (by rw [List.length_map]; omega))) e (r_ret (n := n + 9) (r_var k))))

theorem toPs_eq : ∀ ds : List D, D.toPs ds = ds.map D.toP
  | [] => by simp [D.toPs]
  | d :: ds => by rw [D.toPs, toPs_eq ds]; rfl
theorem eqv_pairs : ∀ ps : List (Int × Int), PyData.eqvAll ((ps.map dI).map D.toP) ((ps.map dI).map D.toP) = true
  | [] => by simp [PyData.eqvAll]
  | p :: ps => by
    rw [List.map_cons, List.map_cons, PyData.eqvAll, eqv_pairs ps, Bool.and_true]
    simp [D.toP, D.toPs, PyData.eqv, PyData.eqvAll]
theorem pyOk_pairs (ps : List (Int × Int)) : pyOk 8 (.lst (ps.map dI)) = true := by
  show (ps.map dI).all (pyOk 7) = true
  rw [List.all_eq_true]
  intro d hd
  obtain ⟨p, _, rfl⟩ := List.mem_map.mp hd
  rfl
theorem eqv_self (ps : List (Int × Int)) : PyData.eqv (D.toP (.lst (ps.map dI))) (D.toP (.lst (ps.map dI))) = true := by
  rw [D.toP, toPs_eq, PyData.eqv]
  exact eqv_pairs ps
theorem cmp_ne_self (ps : List (Int × Int)) : cmpD .ne (.lst (ps.map dI)) (.lst (ps.map dI)) = some false := by
  show (bif pyOk 8 (.lst (ps.map dI)) && pyOk 8 (.lst (ps.map dI)) then some (!PyData.eqv (D.toP (.lst (ps.map dI))) (D.toP (.lst (ps.map dI)))) else none) = _
  rw [pyOk_pairs, eqv_self]; rfl
theorem cmp_eq_self (ps : List (Int × Int)) : cmpD .eq (.lst (ps.map dI)) (.lst (ps.map dI)) = some true := by
  show (bif pyOk 8 (.lst (ps.map dI)) && pyOk 8 (.lst (ps.map dI)) then some (PyData.eqv (D.toP (.lst (ps.map dI))) (D.toP (.lst (ps.map dI)))) else none) = _
  rw [pyOk_pairs, eqv_self]; rfl
end Mine
open PySem PySem.W PyProof.Rows PySem.Calls
set_option linter.unusedVariables false
set_option maxRecDepth 100000
namespace Mine

noncomputable def stepN : Nat → Nat → Nat
  | 0, d => d + 1
  | 2, d => d - 1
  | _, d => d
noncomputable def depthsN : Nat → List Nat → List Nat
  | d, [] => [d]
  | d, k :: ks => d :: depthsN (stepN k d) ks
noncomputable def fitK : Nat → List Nat → Bool
  | d, [] => Nat.beq d 0
  | d, k :: ks => (bif Nat.beq k 2 then Nat.blt 0 d else true) && (Nat.blt k 4 && fitK (stepN k d) ks)
theorem depths_nat : ∀ (ks : List Nat) (d : Nat), fitK d ks = true → (depthsGo (d : Int) ks).map D.int = (depthsN d ks).map dN ∧ (depthsN d ks)[ks.length]? = some 0
  | [], d, h => ⟨rfl, by
      have : d = 0 := Nat.eq_of_beq_eq_true h
      subst this; rfl⟩
  | k :: ks, d, h => by
    unfold fitK at h
    rw [Bool.and_eq_true, Bool.and_eq_true] at h
    obtain ⟨ih1, h2⟩ := depths_nat ks (stepN k d) h.2.2
    have hk : k < 4 := Nat.le_of_ble_eq_true h.2.1
    have e : (d : Int) + deltaK k = ((stepN k d : Nat) : Int) := by
      have h1 := h.1
      clear h h2 ih1
      rcases lt4 hk with rfl | rfl | rfl | rfl
      · rfl
      · exact Int.add_zero _
      · have : 0 < d := Nat.le_of_ble_eq_true h1
        show (d : Int) + -1 = ((d - 1 : Nat) : Int); omega
      · exact Int.add_zero _
    refine ⟨?_, h2⟩
    show dN d :: (depthsGo ((d : Int) + deltaK k) ks).map D.int = dN d :: (depthsN (stepN k d) ks).map dN
    rw [e, ih1]
theorem depthsN_len : ∀ (ks : List Nat) (d : Nat), (depthsN d ks).length = ks.length + 1
  | [], _ => rfl
  | k :: ks, d => by show _ + 1 = _ + 1; rw [depthsN_len ks]; rfl
noncomputable def arcsK (ks : List Nat) : List (List Arc) := (websTo ks ks.length).map (·.2)
noncomputable def hgtGo (ks ds : List Nat) (is : List Nat) : List Nat := (is.filter fun i => Nat.beq (ks.getD i 0) 1 || Nat.beq (ks.getD i 0) 2).map fun i => ds.getD i 0
noncomputable def hgt (ks : List Nat) : List Nat := hgtGo ks (depthsN 0 ks) (List.range ks.length)
noncomputable def prodK (F : Int) (sp : List Nat) (ns : List Nat) : List (Int × Int) := ns.flatMap fun n => List.replicate (sp.getD n 0) (F - (n : Int), (n : Int))
noncomputable def fullK (hs : List Nat) : Int := (hs.sum : Int) - (hs.length : Int)
noncomputable def prodN (F : Nat) (sp : List Nat) (ns : List Nat) : List Arc := ns.flatMap fun n => List.replicate (sp.getD n 0) (F - n, n)
noncomputable def castI (p : Arc) : Int × Int := ((p.1 : Int), (p.2 : Int))
theorem sortI_cast (l : List Arc) : sortI (l.map castI) = (sortP l).map castI := by
  unfold sortI sortP sortG
  rw [List.length_map]
  cases Nat.ble 2 l.length with
  | false => rfl
  | true =>
    have hg : ∀ i, (l.map castI).getD i (0, 0) = castI (l.getD i (0, 0)) := fun i => by
      rw [List.getD_eq_getElem?_getD, List.getD_eq_getElem?_getD, List.getElem?_map]
      cases l[i]? <;> rfl
    have hc : (fun i j => ltI ((l.map castI).getD i (0, 0)) ((l.map castI).getD j (0, 0))) = fun i j => ltP (l.getD i (0, 0)) (l.getD j (0, 0)) := by
      funext i j
      rw [hg, hg, ltP_ok]; rfl
    show List.map (fun i => (l.map castI).getD i (0, 0)) _ = List.map castI (List.map _ _)
    rw [hc, List.map_map]
    apply List.map_congr_left
    intro i _
    exact hg i
theorem prod_cast (F : Nat) (sp : List Nat) : ∀ ns : List Nat, (∀ n ∈ ns, n ≤ F) → prodK (F : Int) sp ns = (prodN F sp ns).map castI
  | [], _ => rfl
  | n :: ns, h => by
    have hn := h n (List.mem_cons_self ..)
    have ih := prod_cast F sp ns fun j hj => h j (List.mem_cons_of_mem _ hj)
    unfold prodK prodN at ih ⊢
    rw [List.flatMap_cons, List.flatMap_cons, List.map_append, ih, List.map_replicate]
    congr 2
    unfold castI
    rw [Int.ofNat_sub hn]
noncomputable def forceN (n : Nat) (k : Nat → Bool) : Bool := bif Nat.beq n 0 then k 0 else bif Nat.beq n 1 then k 1 else bif Nat.beq n 2 then k 2 else bif Nat.beq n 3 then k 3 else bif Nat.beq n 4 then k 4 else bif Nat.beq n 5 then k 5 else bif Nat.beq n 6 then k 6 else bif Nat.beq n 7 then k 7 else k n
theorem force_one {n m : Nat} {k : Nat → Bool} {r : Bool} (h : r = k n) : (bif Nat.beq n m then k m else r) = k n := by
  cases e : Nat.beq n m with
  | false => exact h
  | true => rw [Nat.eq_of_beq_eq_true e]; rfl
theorem forceN_eq (n : Nat) (k : Nat → Bool) : forceN n k = k n := force_one (force_one (force_one (force_one (force_one (force_one (force_one (force_one rfl)))))))
noncomputable def forceA : List Arc → (List Arc → Bool) → Bool
  | [], k => k []
  | p :: r, k => forceN p.1 fun a => forceN p.2 fun b => forceA r fun r => k ((a, b) :: r)
theorem forceA_eq : ∀ (l : List Arc) (k : List Arc → Bool), forceA l k = k l
  | [], k => rfl
  | p :: r, k => by
    show forceN p.1 (fun a => forceN p.2 fun b => forceA r fun r => k ((a, b) :: r)) = _
    rw [forceN_eq, forceN_eq, forceA_eq r]
noncomputable def good0 (a : List Arc) : Bool := Nat.ble (sortP a).length 1000 && decide (toldN a = castI (pairsN a))
noncomputable def goodA (a : List Arc) : Bool := forceA a good0
theorem goodA_eq (a : List Arc) : goodA a = good0 a := forceA_eq a good0
noncomputable def eqL : List Nat → List Nat → Bool
  | [], [] => true
  | a :: l, b :: m => Nat.beq a b && eqL l m
  | _, _ => false
theorem eqL_eq : ∀ {l m : List Nat}, eqL l m = true → l = m
  | [], [], _ => rfl
  | a :: l, b :: m, h => by
    unfold eqL at h
    rw [Bool.and_eq_true] at h
    rw [Nat.eq_of_beq_eq_true h.1, eqL_eq h.2]
  | [], _ :: _, h => by cases h
  | _ :: _, [], h => by cases h
noncomputable def eqA : List Arc → List Arc → Bool
  | [], [] => true
  | a :: l, b :: m => Nat.beq a.1 b.1 && (Nat.beq a.2 b.2 && eqA l m)
  | _, _ => false
theorem eqA_eq : ∀ {l m : List Arc}, eqA l m = true → l = m
  | [], [], _ => rfl
  | a :: l, b :: m, h => by
    unfold eqA at h
    rw [Bool.and_eq_true, Bool.and_eq_true] at h
    rw [eqA_eq h.2.2, show a = b from Prod.ext (Nat.eq_of_beq_eq_true h.1) (Nat.eq_of_beq_eq_true h.2.1)]
  | [], _ :: _, h => by cases h
  | _ :: _, [], h => by cases h
noncomputable def fullN (hs : List Nat) : Nat := hs.sum - hs.length
noncomputable def tabOk (hs : List Nat) (P : List Arc) : Bool :=
  hs.all (Nat.ble 1 ·) && (Nat.ble hs.sum 800 && (Nat.ble (spreadN hs).length 800 && ((spreadN hs).all (Nat.ble · 800) && (Nat.blt P.length 64 && (Nat.ble (spreadN hs).length (fullN hs + 1) &&
    (Nat.blt (prodN (fullN hs) (spreadN hs) (List.range (spreadN hs).length)).length 64 && eqA (sortP P) (sortP (prodN (fullN hs) (spreadN hs) (List.range (spreadN hs).length)))))))))
noncomputable def testK (tab : List (List Nat × List Arc)) (ks : List Nat) : Bool :=
  fitK 0 ks && ((arcsK ks).all goodA && tab.any fun e => eqL e.1 (hgt ks) && eqA e.2 ((arcsK ks).map pairsN))

noncomputable def restB : List S := [
  .ifs (.cmp (.idx (.var 12) (.neg (.int 1))) [.ne] [.int 0]) [.ret .fls] [],
  .asg 14 (.call 4 [.var 4]),
  .asg 35 (.comp (.call 5 [.var 18]) 18 (.seq (.var 14)) [] none),
  .ifs (.cmp (.var 35) [.ne] [.comp (.call 6 [.var 18]) 18 (.seq (.var 14)) [] none]) [.ret .fls] [],
  .asg 32 (.comp (.idx (.var 12) (.var 2)) 2 (.range (.len (.var 4))) [12, 4] (some (.isIn (.idx (.var 4) (.var 2)) 1 2))),
  .asg 36 (.bin .sub (.sum (.var 32)) (.len (.var 32))),
  .asg 37 (.call 7 [.var 32]),
  .ret (.cmp .eq (.sorted (.var 35)) (.sorted (.comp2 (.tup [.bin .sub (.var 36) (.var 38), .var 38]) 38 (.range (.len (.var 37))) 19 (.range (.idx (.var 37) (.var 38))) [36, 37])))]

theorem toldComp (n : Nat) : ∀ as : List (List Arc), (∀ a ∈ as, a.length < 64 ∧ goodA a = true) → compGo (EV (n + 13)) (.call 5 [.var 18]) 18 none [] (as.map dA) = some ((as.map toldN).map dI)
  | [], _ => rfl
  | a :: as, h => by
    have ha := h a (List.mem_cons_self ..)
    rw [goodA_eq] at ha
    unfold good0 at ha
    rw [Bool.and_eq_true] at ha
    exact c_cons (r_call1 (n := n + 12) (x := dA a) rfl (told_ok n a ha.1 (Nat.le_of_ble_eq_true ha.2.1))) (toldComp n as fun b hb => h b (List.mem_cons_of_mem _ hb))
theorem pairsComp (n : Nat) : ∀ as : List (List Arc), (∀ a ∈ as, a.length < 64 ∧ goodA a = true) → compGo (EV (n + 15)) (.call 6 [.var 18]) 18 none [] (as.map dA) = some ((as.map toldN).map dI)
  | [], _ => rfl
  | a :: as, h => by
    have ha := h a (List.mem_cons_self ..)
    rw [goodA_eq] at ha
    unfold good0 at ha
    rw [Bool.and_eq_true] at ha
    have e : toldN a = (((pairsN a).1 : Int), ((pairsN a).2 : Int)) := of_decide_eq_true ha.2.2
    have hp := pairs_ok n a (by omega)
    have : (.tup [dN (pairsN a).1, dN (pairsN a).2] : D) = dI (toldN a) := by rw [e]
    rw [this] at hp
    exact c_cons (r_call1 (n := n + 14) (x := dA a) rfl hp) (pairsComp n as fun b hb => h b (List.mem_cons_of_mem _ hb))
theorem r_isIn {n : Nat} {σ : St} {a : E} {k : Nat} {i j : Int} (ha : (EV n).e σ a = some (dN k)) : (EV (n + 1)).t σ (.isIn a i j) = some (i == (k : Int) || j == (k : Int)) := by
  show (match (EV n).e σ a with | some (.int k) => some (i == k || j == k) | _ => none) = _
  rw [ha]
theorem hgtComp (n : Nat) (ks ds : List Nat) (hl : ds.length = ks.length + 1) (h8 : ks.length ≤ 8) : ∀ is : List Nat, (∀ i ∈ is, i < ks.length) → compGo (EV (n + 3)) (.idx (.var 12) (.var 2)) 2 (some (.isIn (.idx (.var 4) (.var 2)) 1 2)) [(12, dNs ds), (4, dNs ks)] (is.map dN) = some ((hgtGo ks ds is).map dN)
  | [], _ => rfl
  | i :: is, h => by
    have hi := h i (List.mem_cons_self ..)
    have ht : (EV (n + 3)).t ⟨(2, dN i) :: [(12, dNs ds), (4, dNs ks)], none⟩ (.isIn (.idx (.var 4) (.var 2)) 1 2) = some (Nat.beq (ks.getD i 0) 1 || Nat.beq (ks.getD i 0) 2) := by
      refine (r_isIn (n := n + 2) (k := ks.getD i 0) (r_idx (n := n + 1) (x := dNs ks) (y := dN i) rfl rfl (i_at hi (by omega)))).trans ?_
      rw [beq_int, beq_int]
      congr 2
      · exact Bool.eq_iff_iff.mpr (by rw [beq_iff_eq, beq_iff_eq]; exact eq_comm)
      · exact Bool.eq_iff_iff.mpr (by rw [beq_iff_eq, beq_iff_eq]; exact eq_comm)
    have ih := hgtComp n ks ds hl h8 is fun j hj => h j (List.mem_cons_of_mem _ hj)
    unfold hgtGo at ih ⊢
    cases hb : (Nat.beq (ks.getD i 0) 1 || Nat.beq (ks.getD i 0) 2) with
    | true =>
      rw [hb] at ht
      rw [List.filter_cons, if_pos hb]
      exact c_yes ht (r_idx (n := n + 2) (x := dNs ds) (y := dN i) rfl rfl (i_at (by omega) (by omega))) ih
    | false =>
      rw [hb] at ht
      rw [List.filter_cons, if_neg (by rw [hb]; decide)]
      exact c_no ht ih
theorem repComp (n : Nat) (F : Int) (k : Nat) (ρ : List (Nat × D)) (h36 : look 36 ρ = some (.int F)) (h38 : look 38 ρ = some (dN k)) : ∀ ds : List D, compGo (EV (n + 3)) (.tup [.bin .sub (.var 36) (.var 38), .var 38]) 19 none ρ ds = some ((List.replicate ds.length (F - (k : Int), (k : Int))).map dI)
  | [] => rfl
  | d :: ds => c_cons (r_tup2 (n := n + 2) (r_bin (n := n + 1) (x := .int F) (y := dN k) (r_var h36) (r_var h38) rfl) (r_var h38)) (repComp n F k ρ h36 h38 ds)
theorem prodComp (n : Nat) (F : Int) (sp : List Nat) (h8 : sp.length ≤ 800) (hs : ∀ k, sp.getD k 0 ≤ 800) : ∀ ns : List Nat, (∀ k ∈ ns, k < sp.length) → compGo2 (EV (n + 3)) (.tup [.bin .sub (.var 36) (.var 38), .var 38]) 38 19 (.range (.idx (.var 37) (.var 38))) [(36, .int F), (37, dNs sp)] (ns.map dN) = some ((prodK F sp ns).map dI)
  | [], _ => rfl
  | k :: ns, h => by
    have hk := h k (List.mem_cons_self ..)
    have hI : evalI (EV (n + 3)) ⟨[(38, dN k), (36, .int F), (37, dNs sp)], none⟩ (.range (.idx (.var 37) (.var 38))) = some ((List.range (sp.getD k 0)).map dN) :=
      i_range (n := n + 3) (r_idx (n := n + 2) (x := dNs sp) (y := dN k) rfl rfl (i_at hk (by omega))) (by have := hs k; omega)
    have hc := repComp n F k [(38, dN k), (36, .int F), (37, dNs sp)] rfl rfl ((List.range (sp.getD k 0)).map dN)
    rw [List.length_map, List.length_range] at hc
    have ih := prodComp n F sp h8 hs ns fun j hj => h j (List.mem_cons_of_mem _ hj)
    show (match evalI (EV (n + 3)) ⟨[(38, dN k), (36, .int F), (37, dNs sp)], none⟩ (.range (.idx (.var 37) (.var 38))) with
      | some es => (match compGo (EV (n + 3)) (.tup [.bin .sub (.var 36) (.var 38), .var 38]) 19 none [(38, dN k), (36, .int F), (37, dNs sp)] es with
        | some ys => (match compGo2 (EV (n + 3)) (.tup [.bin .sub (.var 36) (.var 38), .var 38]) 38 19 (.range (.idx (.var 37) (.var 38))) [(36, .int F), (37, dNs sp)] (ns.map dN) with
          | some zs => some (ys ++ zs)
          | none => none)
        | none => none)
      | none => none) = _
    rw [hI]
    show (match compGo (EV (n + 3)) (.tup [.bin .sub (.var 36) (.var 38), .var 38]) 19 none [(38, dN k), (36, .int F), (37, dNs sp)] ((List.range (sp.getD k 0)).map dN) with
        | some ys => (match compGo2 (EV (n + 3)) (.tup [.bin .sub (.var 36) (.var 38), .var 38]) 38 19 (.range (.idx (.var 37) (.var 38))) [(36, .int F), (37, dNs sp)] (ns.map dN) with
          | some zs => some (ys ++ zs)
          | none => none)
        | none => none) = _
    rw [hc, ih]
    unfold prodK
    rw [List.flatMap_cons, List.map_append]
theorem r_comp2 {n : Nat} {σ : St} {elt : E} {k l : Nat} {it it2 : I} {fr : List Nat} {ds ys : List D} (hI : evalI (EV n) σ it = some ds) (hc : compGo2 (EV n) elt k l it2 (keepFr fr σ.env) ds = some ys) (h : ys.length ≤ 100000) : (EV (n + 1)).e σ (.comp2 elt k it l it2 fr) = some (.lst ys) := by
  show (match evalI (EV n) σ it with | some ds => (match compGo2 (EV n) elt k l it2 (keepFr fr σ.env) ds with | some ys => (bif okLen ys.length then some (D.lst ys) else none) | none => none) | none => none) = _
  rw [hI]
  show (match compGo2 (EV n) elt k l it2 (keepFr fr σ.env) ds with | some ys => (bif okLen ys.length then some (D.lst ys) else none) | none => none) = _
  rw [hc]
  show (bif okLen ys.length then some (D.lst ys) else none) = _
  rw [okLen_of h]; rfl
theorem r_cmpE {n : Nat} {σ : St} {a b : E} {x y : D} {c : Cm} {t : Bool} (ha : (EV n).e σ a = some x) (hb : (EV n).e σ b = some y) (hz : cmpD c x y = some t) : (EV (n + 1)).e σ (.cmp c a b) = some (.bool t) := by
  show (match (EV n).e σ a with | some x => (match (EV n).e σ b with | some y => (cmpD c x y).map D.bool | none => none) | none => none) = _
  rw [ha, hb]
  show (cmpD c x y).map D.bool = _
  rw [hz]; rfl
theorem all_getD {sp : List Nat} (h : sp.all (Nat.ble · 800) = true) (k : Nat) : sp.getD k 0 ≤ 800 := by
  rw [List.getD_eq_getElem?_getD]
  cases e : sp[k]? with
  | none => exact Nat.zero_le _
  | some x => exact Nat.le_of_ble_eq_true (List.all_eq_true.mp h x (List.mem_of_getElem? e))
theorem sum_ge : ∀ hs : List Nat, (∀ h ∈ hs, 1 ≤ h) → hs.length ≤ hs.sum
  | [], _ => Nat.le_refl _
  | h :: hs, ha => by
    have h1 := ha h (List.mem_cons_self ..)
    have h2 := sum_ge hs fun j hj => ha j (List.mem_cons_of_mem _ hj)
    rw [List.length_cons, List.sum_cons]; omega
theorem rest_test (s d m t : D) (tab : List (List Nat × List Arc)) (htab : ∀ e ∈ tab, tabOk e.1 e.2 = true) (ks : List Nat) (h8 : ks.length ≤ 8) (hT : testK tab ks = true) : ∃ σ', (EV 54).ss ⟨[(0, s), (3, d), (4, dNs ks), (33, m), (34, t), (12, .lst ((depthsGo 0 ks).map D.int))], none⟩ restB = some (σ', .ret (.bool true)) := by
  unfold testK at hT
  rw [Bool.and_eq_true, Bool.and_eq_true] at hT
  obtain ⟨t1, t2, hany⟩ := hT
  obtain ⟨e, he, heq⟩ := List.any_eq_true.mp hany
  rw [Bool.and_eq_true] at heq
  have ht := htab e he
  rw [eqL_eq heq.1, eqA_eq heq.2] at ht
  unfold tabOk at ht
  rw [Bool.and_eq_true, Bool.and_eq_true, Bool.and_eq_true, Bool.and_eq_true, Bool.and_eq_true, Bool.and_eq_true, Bool.and_eq_true] at ht
  obtain ⟨t4, t5, t6, t7, t3, tF, t8, t9⟩ := ht
  have hk4 : ∀ (ks : List Nat) (d : Nat), fitK d ks = true → ∀ k ∈ ks, k < 4 := by
    intro ks
    induction ks with
    | nil => intro d _ k hk; cases hk
    | cons k ks ih =>
      intro d h j hj
      unfold fitK at h
      rw [Bool.and_eq_true, Bool.and_eq_true] at h
      rcases List.mem_cons.mp hj with rfl | hj
      · exact Nat.le_of_ble_eq_true h.2.1
      · exact ih _ h.2.2 j hj
  have hk4 := hk4 ks 0 t1
  obtain ⟨hd, hlast⟩ := depths_nat ks 0 t1
  have hd : (depthsGo 0 ks).map D.int = (depthsN 0 ks).map dN := hd
  have hdl := depthsN_len ks 0
  rw [hd]
  have hwebs := webs_ok 34 ks h8 hk4
  have hA : (websTo ks ks.length).map (fun w => dA w.2) = (arcsK ks).map dA := by unfold arcsK; rw [List.map_map]; rfl
  rw [hA] at hwebs
  have hgood : ∀ a ∈ arcsK ks, a.length < 64 ∧ goodA a = true := fun a ha => by
    refine ⟨?_, List.all_eq_true.mp t2 a ha⟩
    obtain ⟨w, hw, rfl⟩ := List.mem_map.mp ha
    have := ((websTo_len ks ks.length).2 w hw).2
    omega
  have hcount : (arcsK ks).length < 64 := by
    have : ((arcsK ks).map pairsN).length < 64 := Nat.le_of_ble_eq_true t3
    rwa [List.length_map] at this
  have h1 : ∀ h ∈ hgt ks, 1 ≤ h := fun h hh => Nat.le_of_ble_eq_true (List.all_eq_true.mp t4 h hh)
  have hsum : (hgt ks).sum ≤ 800 := Nat.le_of_ble_eq_true t5
  have hlen := sum_ge _ h1
  have hspl : (spreadN (hgt ks)).length ≤ 800 := Nat.le_of_ble_eq_true t6
  have hspread := spread_ok 33 (hgt ks) h1 hsum (by omega)
  have htold := toldComp 37 (arcsK ks) hgood
  have hpairs := pairsComp 33 (arcsK ks) hgood
  have hcomp := hgtComp 45 ks (depthsN 0 ks) hdl h8 (List.range ks.length) fun i hi => List.mem_range.mp hi
  have hprod := prodComp 40 (fullK (hgt ks)) (spreadN (hgt ks)) hspl (all_getD t7) (List.range (spreadN (hgt ks)).length) fun i hi => List.mem_range.mp hi
  have hFN : fullK (hgt ks) = ((fullN (hgt ks) : Nat) : Int) := by unfold fullK fullN; omega
  have hpc : prodK (fullK (hgt ks)) (spreadN (hgt ks)) (List.range (spreadN (hgt ks)).length) = (prodN (fullN (hgt ks)) (spreadN (hgt ks)) (List.range (spreadN (hgt ks)).length)).map castI := by
    rw [hFN]
    exact prod_cast _ _ _ fun n hn => by
      have := List.mem_range.mp hn
      have := Nat.le_of_ble_eq_true tF
      omega
  have hp64 : (prodK (fullK (hgt ks)) (spreadN (hgt ks)) (List.range (spreadN (hgt ks)).length)).length < 64 := by rw [hpc, List.length_map]; exact Nat.le_of_ble_eq_true t8
  have htc : (arcsK ks).map toldN = ((arcsK ks).map pairsN).map castI := by
    rw [List.map_map]
    apply List.map_congr_left
    intro a ha
    have := (hgood a ha).2
    rw [goodA_eq] at this
    unfold good0 at this
    rw [Bool.and_eq_true] at this
    exact of_decide_eq_true this.2
  have heq : sortI ((arcsK ks).map toldN) = sortI (prodK (fullK (hgt ks)) (spreadN (hgt ks)) (List.range (spreadN (hgt ks)).length)) := by
    rw [htc, hpc, sortI_cast, sortI_cast, eqA_eq t9]
  have hs1 := sortI_ok ((arcsK ks).map toldN) (by rw [List.length_map]; exact hcount)
  have hs2 := sortI_ok (prodK (fullK (hgt ks)) (spreadN (hgt ks)) (List.range (spreadN (hgt ks)).length)) hp64
  rw [← heq] at hs2
  have hH : hgtGo ks (depthsN 0 ks) (List.range ks.length) = hgt ks := rfl
  rw [hH] at hcomp
  have hfull : fullK (hgt ks) = ((hgt ks).sum : Int) - ((hgt ks).length : Int) := rfl
  have hhl : (hgt ks).length ≤ 800 := by omega
  generalize fullK (hgt ks) = F at hprod hs2 hfull hp64
  generalize spreadN (hgt ks) = sp at hspread hprod hs2 hspl hp64
  generalize hgt ks = hs at hspread hcomp hfull hsum hlen hhl
  have hcount2 : ((arcsK ks).map toldN).length < 64 := by rw [List.length_map]; exact hcount
  generalize (arcsK ks).map toldN = ts at htold hpairs hs1 hs2 hcount2
  generalize arcsK ks = as at hwebs htold hpairs hcount
  generalize prodK F sp (List.range sp.length) = pr at hprod hs2 hp64
  generalize depthsN 0 ks = ds at *
  have hneg : idxD (dNs ds) (.int (-1)) = some (dN 0) := by
    show (bif okInt (-1) then (bif Nat.ble (0 + 1) (ds.map dN).length then (ds.map dN)[(ds.map dN).length - (0 + 1)]? else none) else none) = _
    rw [List.length_map, hdl]
    show (ds.map dN)[ks.length + 1 - (0 + 1)]? = _
    rw [show ks.length + 1 - (0 + 1) = ks.length by omega, List.getElem?_map, hlast]
    rfl
  apply Exists.intro
  refine r_ifsF (n := 53) (r_cmp1 (n := 52) (x := dN 0) (y := .int 0) (r_idx (n := 51) (x := dNs ds) (y := .int (-1)) rfl rfl hneg) rfl rfl) r_nil ?_
  refine r_asg (n := 52) (x := .lst (as.map dA)) (r_call1 (n := 51) (x := dNs ks) rfl ?_) ?_
  · exact hwebs
  refine r_asg (n := 51) (x := .lst (ts.map dI)) (r_comp (n := 50) (ds := as.map dA) (i_seq (n := 50) rfl (okLen_of (by rw [List.length_map]; omega))) htold (by rw [List.length_map]; omega)) ?_
  refine r_ifsF (n := 50) (r_cmp1 (n := 49) (x := .lst (ts.map dI)) (y := .lst (ts.map dI)) rfl (r_comp (n := 48) (ds := as.map dA) (i_seq (n := 48) rfl (okLen_of (by rw [List.length_map]; omega))) hpairs (by rw [List.length_map]; omega)) (cmp_ne_self ts)) r_nil ?_
  refine r_asg (n := 49) (x := dNs hs) (r_comp (n := 48) (ds := (List.range ks.length).map dN) (i_range (n := 48) (r_len (n := 47) (x := dNs ks) rfl (lenD_N ks (by omega))) (by omega)) hcomp (by rw [List.length_map]; omega)) ?_
  refine r_asg (n := 48) (x := .int F) (r_bin (n := 47) (x := dN hs.sum) (y := dN hs.length) (r_sum (n := 46) (x := dNs hs) rfl (sumD_N hs (by omega))) (r_len (n := 46) (x := dNs hs) rfl (lenD_N hs (by omega))) (by rw [hfull]; rfl)) ?_
  refine r_asg (n := 47) (x := dNs sp) (r_call1 (n := 46) (x := dNs hs) rfl hspread) ?_
  refine r_ret (n := 46) (r_cmpE (n := 45) (x := .lst ((sortI ts).map dI)) (y := .lst ((sortI ts).map dI)) (r_sorted (n := 44) (x := .lst (ts.map dI)) rfl hs1) (r_sorted (n := 44) (x := .lst (pr.map dI)) ?_ hs2) (cmp_eq_self _))
  exact r_comp2 (n := 43) (ds := (List.range sp.length).map dN) (i_range (n := 43) (r_len (n := 42) (x := dNs sp) rfl (lenD_N sp (by omega))) (by omega)) hprod (by rw [List.length_map]; omega)
end Mine
open PySem PySem.W PyProof.Rows PySem.Calls
set_option linter.unusedVariables false
set_option maxRecDepth 100000
namespace Mine

noncomputable def nextK (d : Nat) : List (Nat × Nat) := (bif Nat.blt d 3 then [(0, d + 1)] else []) ++ (bif Nat.blt 0 d && Nat.blt d 3 then [(1, d)] else []) ++ (bif Nat.blt 0 d then [(2, d - 1)] else []) ++ [(3, d)]
noncomputable def treeK : Nat → Nat → List (List Nat)
  | 0, d => [List.replicate d 2]
  | n + 1, d => (nextK d).flatMap fun p => (treeK n p.2).map (p.1 :: ·)
theorem kd_next (v d : Nat) : kd v d ∈ nextK d := by
  unfold kd
  cases h0 : (Nat.beq (v % 4) 0 && Nat.blt d 3) with
  | true =>
    unfold nextK
    rw [((Bool.and_eq_true ..).mp h0).2]
    exact List.mem_append_left _ (List.mem_append_left _ (List.mem_append_left _ (.head _)))
  | false =>
    cases h1 : (Nat.beq (v % 4) 1 && (Nat.blt 0 d && Nat.blt d 3)) with
    | true =>
      unfold nextK
      rw [((Bool.and_eq_true ..).mp h1).2]
      exact List.mem_append_left _ (List.mem_append_left _ (List.mem_append_right _ (.head _)))
    | false =>
      cases h2 : (Nat.beq (v % 4) 2 && Nat.blt 0 d) with
      | true =>
        unfold nextK
        rw [((Bool.and_eq_true ..).mp h2).2]
        exact List.mem_append_left _ (List.mem_append_right _ (.head _))
      | false => exact List.mem_append_right _ (.head _)
theorem kinds_tree : ∀ (vs : List Nat) (d : Nat), (kindsGo d vs).1 ++ List.replicate (kindsGo d vs).2 2 ∈ treeK vs.length d
  | [], d => List.mem_singleton.mpr rfl
  | v :: vs, d => List.mem_flatMap.mpr ⟨kd v d, kd_next v d, List.mem_map.mpr ⟨_, kinds_tree vs (kd v d).2, rfl⟩⟩
noncomputable def tab1 : List (List Nat × List Arc) := [
  ([1, 1], [(0, 0)]),
  ([1, 1, 1], [(0, 0)]),
  ([2, 1], [(1, 0), (0, 1)]),
  ([2, 2, 1], [(2, 0), (1, 1), (1, 1), (0, 2)]),
  ([1, 2, 1], [(1, 0), (0, 1)]),
  ([3, 2, 1], [(3, 0), (2, 1), (2, 1), (1, 2), (1, 2), (0, 3)]),
  ([1], [(0, 0)]),
  ([1, 1, 1, 1], [(0, 0)]),
  ([2, 2, 2, 1], [(3, 0), (2, 1), (2, 1), (1, 2), (2, 1), (1, 2), (1, 2), (0, 3)]),
  ([1, 2, 2, 1], [(2, 0), (1, 1), (1, 1), (0, 2)]),
  ([1, 1, 2, 1], [(1, 0), (0, 1)]),
  ([2, 3, 2, 1], [(4, 0), (3, 1), (3, 1), (2, 2), (2, 2), (1, 3), (3, 1), (2, 2), (2, 2), (1, 3), (1, 3), (0, 4)]),
  ([2, 1, 1], [(1, 0), (0, 1)]),
  ([1, 3, 2, 1], [(3, 0), (2, 1), (2, 1), (1, 2), (1, 2), (0, 3)]),
  ([3, 2, 2, 1], [(4, 0), (3, 1), (3, 1), (2, 2), (3, 1), (2, 2), (2, 2), (1, 3), (2, 2), (1, 3), (1, 3), (0, 4)]),
  ([2, 2, 1, 1], [(2, 0), (1, 1), (1, 1), (0, 2)]),
  ([2, 1, 2, 1], [(2, 0), (1, 1), (1, 1), (0, 2)]),
  ([2, 1, 1, 1], [(1, 0), (0, 1)]),
  ([1, 2, 3, 2, 1], [(4, 0), (3, 1), (3, 1), (2, 2), (2, 2), (1, 3), (3, 1), (2, 2), (2, 2), (1, 3), (1, 3), (0, 4)]),
  ([1, 2, 2, 2, 1], [(3, 0), (2, 1), (2, 1), (1, 2), (2, 1), (1, 2), (1, 2), (0, 3)]),
  ([1, 2, 1, 1], [(1, 0), (0, 1)]),
  ([1, 1, 3, 2, 1], [(3, 0), (2, 1), (2, 1), (1, 2), (1, 2), (0, 3)]),
  ([1, 1, 2, 2, 1], [(2, 0), (1, 1), (1, 1), (0, 2)]),
  ([1, 1, 1, 2, 1], [(1, 0), (0, 1)]),
  ([1, 1, 1, 1, 1], [(0, 0)]),
  ([], [(0, 0)])]
noncomputable def tb0 : List Nat × List Arc := ([3, 3, 2, 1], [(5, 0), (4, 1), (4, 1), (3, 2), (3, 2), (2, 3), (4, 1), (3, 2), (3, 2), (2, 3), (2, 3), (1, 4), (3, 2), (2, 3), (2, 3), (1, 4), (1, 4), (0, 5)])
noncomputable def tb1 : List Nat × List Arc := ([2, 2, 3, 2, 1], [(5, 0), (4, 1), (4, 1), (3, 2), (3, 2), (2, 3), (4, 1), (3, 2), (3, 2), (2, 3), (2, 3), (1, 4), (4, 1), (3, 2), (3, 2), (2, 3), (2, 3), (1, 4), (3, 2), (2, 3), (2, 3), (1, 4), (1, 4), (0, 5)])
noncomputable def tb2 : List Nat × List Arc := ([2, 2, 2, 2, 1], [(4, 0), (3, 1), (3, 1), (2, 2), (3, 1), (2, 2), (2, 2), (1, 3), (3, 1), (2, 2), (2, 2), (1, 3), (2, 2), (1, 3), (1, 3), (0, 4)])
noncomputable def tabK : List (List Nat × List Arc) := tab1 ++ [tb0, tb1, tb2]
theorem tab1_ok : tab1.all (fun e => tabOk e.1 e.2) = true := by decide +kernel
theorem tb0_ok : tabOk tb0.1 tb0.2 = true := by decide +kernel
theorem tb1_ok : tabOk tb1.1 tb1.2 = true := by decide +kernel
theorem tb2_ok : tabOk tb2.1 tb2.2 = true := by decide +kernel
theorem tabK_ok : ∀ e ∈ tabK, tabOk e.1 e.2 = true := by
  intro e he
  rcases List.mem_append.mp he with h | h
  · exact List.all_eq_true.mp tab1_ok e h
  · simp only [List.mem_cons, List.not_mem_nil, or_false] at h
    rcases h with rfl | rfl | rfl
    · exact tb0_ok
    · exact tb1_ok
    · exact tb2_ok
noncomputable def allFrom : Nat → Nat → List Nat → Bool
  | 0, d, pre => testK tabK (pre ++ List.replicate d 2)
  | n + 1, d, pre => (nextK d).all fun p => allFrom n p.2 (pre ++ [p.1])
theorem allFrom_step {n d : Nat} {pre : List Nat} {l : List (Nat × Nat)} (h : nextK d = l) (hl : ∀ p ∈ l, allFrom n p.2 (pre ++ [p.1]) = true) : allFrom (n + 1) d pre = true := List.all_eq_true.mpr (h ▸ hl)
theorem allFrom_tree : ∀ (n d : Nat) (pre : List Nat), allFrom n d pre = true → ∀ ks ∈ treeK n d, testK tabK (pre ++ ks) = true
  | 0, d, pre, h, ks, hk => by rw [List.mem_singleton.mp hk]; exact h
  | n + 1, d, pre, h, ks, hk => by
    obtain ⟨p, hp, hk⟩ := List.mem_flatMap.mp hk
    obtain ⟨r, hr, rfl⟩ := List.mem_map.mp hk
    have := allFrom_tree n p.2 (pre ++ [p.1]) (List.all_eq_true.mp h p hp) r hr
    rwa [List.append_assoc] at this
theorem fr_0002 : allFrom 1 2 [0, 0, 0, 2] = true := by decide +kernel
theorem fr_0003 : allFrom 1 3 [0, 0, 0, 3] = true := by decide +kernel
theorem fr_000 : allFrom 2 3 [0, 0, 0] = true := allFrom_step (l := [(2, 2), (3, 3)]) rfl (List.forall_mem_cons.mpr ⟨fr_0002, List.forall_mem_cons.mpr ⟨fr_0003, fun _ h => nomatch h⟩⟩)
theorem fr_0010 : allFrom 1 3 [0, 0, 1, 0] = true := by decide +kernel
theorem fr_00110 : allFrom 0 3 [0, 0, 1, 1, 0] = true := by decide +kernel
theorem fr_00111 : allFrom 0 2 [0, 0, 1, 1, 1] = true := by decide +kernel
theorem fr_00112 : allFrom 0 1 [0, 0, 1, 1, 2] = true := by decide +kernel
theorem fr_00113 : allFrom 0 2 [0, 0, 1, 1, 3] = true := by decide +kernel
theorem fr_0011 : allFrom 1 2 [0, 0, 1, 1] = true := allFrom_step (l := [(0, 3), (1, 2), (2, 1), (3, 2)]) rfl (List.forall_mem_cons.mpr ⟨fr_00110, List.forall_mem_cons.mpr ⟨fr_00111, List.forall_mem_cons.mpr ⟨fr_00112, List.forall_mem_cons.mpr ⟨fr_00113, fun _ h => nomatch h⟩⟩⟩⟩)
theorem fr_0012 : allFrom 1 1 [0, 0, 1, 2] = true := by decide +kernel
theorem fr_0013 : allFrom 1 2 [0, 0, 1, 3] = true := by decide +kernel
theorem fr_001 : allFrom 2 2 [0, 0, 1] = true := allFrom_step (l := [(0, 3), (1, 2), (2, 1), (3, 2)]) rfl (List.forall_mem_cons.mpr ⟨fr_0010, List.forall_mem_cons.mpr ⟨fr_0011, List.forall_mem_cons.mpr ⟨fr_0012, List.forall_mem_cons.mpr ⟨fr_0013, fun _ h => nomatch h⟩⟩⟩⟩)
theorem fr_0020 : allFrom 1 2 [0, 0, 2, 0] = true := by decide +kernel
theorem fr_0021 : allFrom 1 1 [0, 0, 2, 1] = true := by decide +kernel
theorem fr_0022 : allFrom 1 0 [0, 0, 2, 2] = true := by decide +kernel
theorem fr_0023 : allFrom 1 1 [0, 0, 2, 3] = true := by decide +kernel
theorem fr_002 : allFrom 2 1 [0, 0, 2] = true := allFrom_step (l := [(0, 2), (1, 1), (2, 0), (3, 1)]) rfl (List.forall_mem_cons.mpr ⟨fr_0020, List.forall_mem_cons.mpr ⟨fr_0021, List.forall_mem_cons.mpr ⟨fr_0022, List.forall_mem_cons.mpr ⟨fr_0023, fun _ h => nomatch h⟩⟩⟩⟩)
theorem fr_0030 : allFrom 1 3 [0, 0, 3, 0] = true := by decide +kernel
theorem fr_0031 : allFrom 1 2 [0, 0, 3, 1] = true := by decide +kernel
theorem fr_0032 : allFrom 1 1 [0, 0, 3, 2] = true := by decide +kernel
theorem fr_0033 : allFrom 1 2 [0, 0, 3, 3] = true := by decide +kernel
theorem fr_003 : allFrom 2 2 [0, 0, 3] = true := allFrom_step (l := [(0, 3), (1, 2), (2, 1), (3, 2)]) rfl (List.forall_mem_cons.mpr ⟨fr_0030, List.forall_mem_cons.mpr ⟨fr_0031, List.forall_mem_cons.mpr ⟨fr_0032, List.forall_mem_cons.mpr ⟨fr_0033, fun _ h => nomatch h⟩⟩⟩⟩)
theorem fr_00 : allFrom 3 2 [0, 0] = true := allFrom_step (l := [(0, 3), (1, 2), (2, 1), (3, 2)]) rfl (List.forall_mem_cons.mpr ⟨fr_000, List.forall_mem_cons.mpr ⟨fr_001, List.forall_mem_cons.mpr ⟨fr_002, List.forall_mem_cons.mpr ⟨fr_003, fun _ h => nomatch h⟩⟩⟩⟩)
theorem fr_0100 : allFrom 1 3 [0, 1, 0, 0] = true := by decide +kernel
theorem fr_0101 : allFrom 1 2 [0, 1, 0, 1] = true := by decide +kernel
theorem fr_0102 : allFrom 1 1 [0, 1, 0, 2] = true := by decide +kernel
theorem fr_0103 : allFrom 1 2 [0, 1, 0, 3] = true := by decide +kernel
theorem fr_010 : allFrom 2 2 [0, 1, 0] = true := allFrom_step (l := [(0, 3), (1, 2), (2, 1), (3, 2)]) rfl (List.forall_mem_cons.mpr ⟨fr_0100, List.forall_mem_cons.mpr ⟨fr_0101, List.forall_mem_cons.mpr ⟨fr_0102, List.forall_mem_cons.mpr ⟨fr_0103, fun _ h => nomatch h⟩⟩⟩⟩)
theorem fr_011 : allFrom 2 1 [0, 1, 1] = true := by decide +kernel
theorem fr_012 : allFrom 2 0 [0, 1, 2] = true := by decide +kernel
theorem fr_013 : allFrom 2 1 [0, 1, 3] = true := by decide +kernel
theorem fr_01 : allFrom 3 1 [0, 1] = true := allFrom_step (l := [(0, 2), (1, 1), (2, 0), (3, 1)]) rfl (List.forall_mem_cons.mpr ⟨fr_010, List.forall_mem_cons.mpr ⟨fr_011, List.forall_mem_cons.mpr ⟨fr_012, List.forall_mem_cons.mpr ⟨fr_013, fun _ h => nomatch h⟩⟩⟩⟩)
theorem fr_02 : allFrom 3 0 [0, 2] = true := by decide +kernel
theorem fr_0300 : allFrom 1 3 [0, 3, 0, 0] = true := by decide +kernel
theorem fr_0301 : allFrom 1 2 [0, 3, 0, 1] = true := by decide +kernel
theorem fr_0302 : allFrom 1 1 [0, 3, 0, 2] = true := by decide +kernel
theorem fr_0303 : allFrom 1 2 [0, 3, 0, 3] = true := by decide +kernel
theorem fr_030 : allFrom 2 2 [0, 3, 0] = true := allFrom_step (l := [(0, 3), (1, 2), (2, 1), (3, 2)]) rfl (List.forall_mem_cons.mpr ⟨fr_0300, List.forall_mem_cons.mpr ⟨fr_0301, List.forall_mem_cons.mpr ⟨fr_0302, List.forall_mem_cons.mpr ⟨fr_0303, fun _ h => nomatch h⟩⟩⟩⟩)
theorem fr_031 : allFrom 2 1 [0, 3, 1] = true := by decide +kernel
theorem fr_032 : allFrom 2 0 [0, 3, 2] = true := by decide +kernel
theorem fr_033 : allFrom 2 1 [0, 3, 3] = true := by decide +kernel
theorem fr_03 : allFrom 3 1 [0, 3] = true := allFrom_step (l := [(0, 2), (1, 1), (2, 0), (3, 1)]) rfl (List.forall_mem_cons.mpr ⟨fr_030, List.forall_mem_cons.mpr ⟨fr_031, List.forall_mem_cons.mpr ⟨fr_032, List.forall_mem_cons.mpr ⟨fr_033, fun _ h => nomatch h⟩⟩⟩⟩)
theorem fr_0 : allFrom 4 1 [0] = true := allFrom_step (l := [(0, 2), (1, 1), (2, 0), (3, 1)]) rfl (List.forall_mem_cons.mpr ⟨fr_00, List.forall_mem_cons.mpr ⟨fr_01, List.forall_mem_cons.mpr ⟨fr_02, List.forall_mem_cons.mpr ⟨fr_03, fun _ h => nomatch h⟩⟩⟩⟩)
theorem fr_3000 : allFrom 1 3 [3, 0, 0, 0] = true := by decide +kernel
theorem fr_3001 : allFrom 1 2 [3, 0, 0, 1] = true := by decide +kernel
theorem fr_3002 : allFrom 1 1 [3, 0, 0, 2] = true := by decide +kernel
theorem fr_3003 : allFrom 1 2 [3, 0, 0, 3] = true := by decide +kernel
theorem fr_300 : allFrom 2 2 [3, 0, 0] = true := allFrom_step (l := [(0, 3), (1, 2), (2, 1), (3, 2)]) rfl (List.forall_mem_cons.mpr ⟨fr_3000, List.forall_mem_cons.mpr ⟨fr_3001, List.forall_mem_cons.mpr ⟨fr_3002, List.forall_mem_cons.mpr ⟨fr_3003, fun _ h => nomatch h⟩⟩⟩⟩)
theorem fr_301 : allFrom 2 1 [3, 0, 1] = true := by decide +kernel
theorem fr_302 : allFrom 2 0 [3, 0, 2] = true := by decide +kernel
theorem fr_303 : allFrom 2 1 [3, 0, 3] = true := by decide +kernel
theorem fr_30 : allFrom 3 1 [3, 0] = true := allFrom_step (l := [(0, 2), (1, 1), (2, 0), (3, 1)]) rfl (List.forall_mem_cons.mpr ⟨fr_300, List.forall_mem_cons.mpr ⟨fr_301, List.forall_mem_cons.mpr ⟨fr_302, List.forall_mem_cons.mpr ⟨fr_303, fun _ h => nomatch h⟩⟩⟩⟩)
theorem fr_33 : allFrom 3 0 [3, 3] = true := by decide +kernel
theorem fr_3 : allFrom 4 0 [3] = true := allFrom_step (l := [(0, 1), (3, 0)]) rfl (List.forall_mem_cons.mpr ⟨fr_30, List.forall_mem_cons.mpr ⟨fr_33, fun _ h => nomatch h⟩⟩)
theorem fr_ : allFrom 5 0 [] = true := allFrom_step (l := [(0, 1), (3, 0)]) rfl (List.forall_mem_cons.mpr ⟨fr_0, List.forall_mem_cons.mpr ⟨fr_3, fun _ h => nomatch h⟩⟩)
theorem rest_ok (s d m t : D) (vs : List Nat) (hl : vs.length = 5) : ∃ σ', (EV 54).ss ⟨[(0, s), (3, d), (4, dNs (kindsL vs)), (33, m), (34, t), (12, .lst ((depthsGo 0 (kindsL vs)).map D.int))], none⟩ restB = some (σ', .ret (.bool true)) := by
  have h := kinds_tree vs 0
  rw [hl] at h
  obtain ⟨h1, _⟩ := kindsL_len vs
  exact rest_test s d m t tabK tabK_ok (kindsL vs) (by omega) (allFrom_tree 5 0 [] fr_ _ h)
end Mine
open PySem PySem.W PyProof.Rows PySem.Calls
set_option linter.unusedVariables false
set_option maxRecDepth 100000
namespace Mine
theorem r_ifs0 {n : Nat} {σ σ₁ : St} {t : T} {a b r : List S} {o : Option (St × Fl)} (ht : (EV n).t σ t = some false) (hb : (EV n).ss σ b = some (σ₁, .next)) (hr : (EV n).ss σ₁ r = o) : (EV (n + 1)).ss σ (.ifs t a b :: r) = o := by
  refine r_step (σ₁ := σ₁) ?_ hr
  show (match (EV n).t σ t with | some true => (EV n).ss σ a | some false => (EV n).ss σ b | none => none) = _
  rw [ht]; exact hb
theorem rows_map (vs ks : List Nat) (h4 : ∀ k ∈ ks, k < 4) : ((rowsTo vs ks ks.length).map fun (r : Row) => D.bytes ⟨pieceL r.1 r.2.1⟩) = ((rowsTo vs ks ks.length).map fun (r : Row) => (r.1, r.2.1)).map (fun p => D.bytes ⟨pieceL p.1 p.2⟩) ∧ (((rowsTo vs ks ks.length).map fun (r : Row) => (r.1, r.2.1)).map (·.1)) = ks := by
  constructor
  · rw [List.map_map]; rfl
  · unfold rowsTo
    rw [List.map_map, List.map_map]
    apply List.ext_getElem
    · simp
    · intro i h1 h2
      simp only [List.getElem_map, List.getElem_range, Function.comp_apply, rowAt]
      rw [List.getD_eq_getElem?_getD, List.getElem?_eq_getElem h2]
      rfl
theorem rows_lt (vs ks : List Nat) (h4 : ∀ k ∈ ks, k < 4) : ∀ p ∈ ((rowsTo vs ks ks.length).map fun (r : Row) => (r.1, r.2.1)), p.1 < 4 ∧ p.2 < 4 := by
  intro p hp
  obtain ⟨r, hr, rfl⟩ := List.mem_map.mp hp
  unfold rowsTo at hr
  obtain ⟨i, hi, rfl⟩ := List.mem_map.mp hr
  rw [List.mem_range] at hi
  refine ⟨?_, Nat.mod_lt _ (by decide)⟩
  show ks.getD i 0 < 4
  rw [List.getD_eq_getElem?_getD, List.getElem?_eq_getElem hi]
  exact h4 _ (List.getElem_mem hi)
theorem plain (is : List Int) (h : ¬ 63 < (is.length : Int)) : ∃ σ', (ev fns prim 60).ss ⟨[(0, .lst (is.map .int))], none⟩ lawB = some (σ', .ret (.bool true)) := by
  obtain ⟨a, b, c, d, e, ⟨ha, hb, hc, hd, he⟩, h0⟩ := drawn_ok 44 is (by omega)
  have hvs : ([a, b, c, d, e] : List Nat).length = 5 := rfl
  have hlt : ∀ v ∈ [a, b, c, d, e], v < 48 := by
    intro v hv
    simp only [List.mem_cons, List.not_mem_nil, or_false] at hv
    rcases hv with rfl | rfl | rfl | rfl | rfl <;> assumption
  have h0 : (EV 58).f 0 [isL is] = some (dNs [a, b, c, d, e]) := h0
  generalize [a, b, c, d, e] = vs at hvs hlt h0
  have hgd : ∀ i, i < 5 → vs.getD i 0 < 48 := by
    intro i hi
    rw [List.getD_eq_getElem?_getD, List.getElem?_eq_getElem (by omega)]
    exact hlt _ (List.getElem_mem (by omega))
  have h1 := kinds_ok 39 vs hlt (by omega)
  have h4 := kindsL_lt vs
  obtain ⟨hk1, hk2⟩ := kindsL_len vs
  obtain ⟨σ', hrest⟩ := rest_ok (isL is) (dNs vs) (.tup [dS (textL (rowsTo vs (kindsL vs) (kindsL vs).length)), .bytes (by8 (dueL (rowsTo vs (kindsL vs) (kindsL vs).length)))]) (.bytes (by8 (dueL (rowsTo vs (kindsL vs) (kindsL vs).length)))) vs hvs
  generalize kindsL vs = ks at h1 h4 hk1 hk2 hrest
  have h2 := mail_ok 38 vs ks hvs hgd (by omega) h4
  have hrl := rowsTo_len vs ks ks.length
  obtain ⟨m1, m2⟩ := rows_map vs ks h4
  have mlt := rows_lt vs ks h4
  have hne : rowsTo vs ks ks.length ≠ [] := fun q => by rw [q] at hrl; simp at hrl; omega
  have hsplit := split_rows (rowsTo vs ks ks.length) (by omega) hne
  rw [m1] at hsplit
  have h3 := depths_ok 44 _ mlt (by rw [List.length_map, hrl]; omega)
  rw [m2] at h3
  have hfix := fix_rows (rowsTo vs ks ks.length) (by omega)
  have hquo := quote_rows (rowsTo vs ks ks.length) (by omega)
  have henc := enc_of (sentL (rowsTo vs ks ks.length)) (sent_ascii _) (by have := sentL_len (rowsTo vs ks ks.length); omega)
  generalize rowsTo vs ks ks.length = rs at *
  refine ⟨σ', ?_⟩
  refine r_asg (n := 59) (x := dNs vs) (r_call1 (x := isL is) rfl h0) ?_
  refine r_asg (n := 58) (x := dNs ks) (r_call1 (x := dNs vs) rfl h1) ?_
  refine r_asg (n := 57) (x := .tup [dS (textL rs), .bytes (by8 (dueL rs))]) (r_call2 (x := dNs vs) (y := dNs ks) rfl rfl h2) ?_
  refine r_asg (n := 56) (x := .bytes (by8 (dueL rs))) (r_call1 (x := .bytes (by8 (sentL rs))) (r_encode (x := dS (sentL rs)) (r_call1 (x := dS (textL rs)) (r_idx (x := .tup [dS (textL rs), .bytes (by8 (dueL rs))]) (y := .int 0) rfl rfl rfl) hfix) henc) hquo) ?_
  refine r_ifs0 (n := 55) (r_cmp1 (x := .bytes (by8 (dueL rs))) (y := .bytes (by8 (dueL rs))) rfl (r_idx (x := .tup [dS (textL rs), .bytes (by8 (dueL rs))]) (y := .int 1) rfl rfl rfl) ?_) r_nil ?_
  · show some ((by8 (dueL rs)).toList != (by8 (dueL rs)).toList) = _
    rw [bne_self_eq_false]
  refine r_asg (n := 54) (x := .lst ((depthsGo 0 ks).map D.int)) (r_call1 (x := .lst ((rs.map fun (r : Row) => (r.1, r.2.1)).map (fun p => D.bytes ⟨pieceL p.1 p.2⟩) ++ [.bytes #[]])) (r_split (x := .bytes (by8 (dueL rs))) rfl hsplit) h3) ?_
  exact hrest
end Mine
open PySem PySem.W PyProof.Rows
set_option maxRecDepth 100000
set_option maxHeartbeats 8000000
namespace Mine
open_top hd for PySem.Challenge.rw_sr0011_01
end Mine
open PySem PySem.W PyProof.Rows PySem.Calls
set_option maxRecDepth 100000
set_option maxHeartbeats 8000000
set_option linter.unusedVariables false
namespace Mine
noncomputable def FK (p : Params) (a : Addr) : Option Obj := (hd.heap_39 p).lookup a

theorem bind1_all {fd : FuncData} {y : Str} (h : ∀ v, bindArgs fd ⟨[v], []⟩ = pure [(y, v)]) : ∀ vs : List Value, vs.length = 1 → bindArgs fd ⟨vs, []⟩ = pure ([y].zip vs)
  | [v], _ => h v
theorem bind2_all {fd : FuncData} {y z : Str} (h : ∀ v u, bindArgs fd ⟨[v, u], []⟩ = pure [(y, v), (z, u)]) : ∀ vs : List Value, vs.length = 2 → bindArgs fd ⟨vs, []⟩ = pure ([y, z].zip vs)
  | [v, u], _ => h v u

theorem ps2 {sc : Scope} {k l : Nat} (h : sc.names.lookup (nm k) = some .local ∨ sc.names.lookup (nm k) = some .cell) (h' : sc.names.lookup (nm l) = some .local ∨ sc.names.lookup (nm l) = some .cell) : ∀ j ∈ [k, l], sc.names.lookup (nm j) = some .local ∨ sc.names.lookup (nm j) = some .cell := fun j hj => by
  rcases List.mem_cons.mp hj with rfl | hj
  · exact h
  · rw [List.mem_singleton.mp hj]; exact h'
theorem ps1 {sc : Scope} {k : Nat} (h : sc.names.lookup (nm k) = some .local ∨ sc.names.lookup (nm k) = some .cell) : ∀ j ∈ [k], sc.names.lookup (nm j) = some .local ∨ sc.names.lookup (nm j) = some .cell := fun j hj => by rw [List.mem_singleton.mp hj]; exact h

theorem d0 (p : Params) : DefOK (FK p) 0 ⟨[0], drawnB⟩ := by
  refine ⟨⟨_, _, 99, _, _, _, _, _, rfl, rfl, rfl, rfl, rfl, rfl, rfl, bind1_all (fun v => rfl), rfl, rfl, rfl, rfl, rfl, rfl, ps1 (by first | exact .inl (by decide +kernel) | exact .inr (by decide +kernel)), by decide, by decide, ?_⟩⟩
  show SimSs 99 _ drawnB _
  unfold drawnB
  repeat (first
    | ((with_reducible show SimSs _ _ [] _); exact SimSs.nil)
    | ((with_reducible show SimSs _ _ (_ :: _) _); refine SimSs.cons ?_ ?_)
    | ((with_reducible show SimS _ _ (.asg _ (.comp _ _ _ _ _)) _); refine SimS.asgC (by (first | decide +kernel | (unfold isGlob; decide +kernel))) (by decide) (by (first | decide +kernel | (unfold isGlob; decide +kernel))) rfl (by (first | decide +kernel | (unfold isGlob; decide +kernel))) ?_)
    | ((with_reducible show SimS _ _ (.asg _ _) _); refine SimS.asg (by (first | decide +kernel | (unfold isGlob; decide +kernel))) (by decide) (by first | exact .inl ⟨by (first | decide +kernel | (unfold isGlob; decide +kernel)), rfl⟩ | exact .inr (by (first | decide +kernel | (unfold isGlob; decide +kernel)))) ?_)
    | ((with_reducible show SimS _ _ .acc _); exact SimS.acc (by (first | decide +kernel | (unfold isGlob; decide +kernel))) (by (first | decide +kernel | (unfold isGlob; decide +kernel))))
    | ((with_reducible show SimS _ _ (.app _) _); refine SimS.app (by (first | decide +kernel | (unfold isGlob; decide +kernel))) (by (first | decide +kernel | (unfold isGlob; decide +kernel))) ?_ rfl (fun env => ⟨_, rfl⟩))
    | ((with_reducible show SimS _ _ (.ins _) _); refine SimS.ins (by (first | decide +kernel | (unfold isGlob; decide +kernel))) (by (first | decide +kernel | (unfold isGlob; decide +kernel))) (by (first | decide +kernel | (unfold isGlob; decide +kernel))) ?_ rfl)
    | ((with_reducible show SimS _ _ (.mov _) _); exact SimS.mov (by (first | decide +kernel | (unfold isGlob; decide +kernel))) (by decide) (by (first | decide +kernel | (unfold isGlob; decide +kernel))) (by (first | decide +kernel | (unfold isGlob; decide +kernel))) (by (first | decide +kernel | (unfold isGlob; decide +kernel))))
    | ((with_reducible show SimS _ _ (.ifs _ _ _) _); refine SimS.ifs ?_ ?_ ?_)
    | ((with_reducible show SimS _ _ (.for1 _ _ _) _); refine SimS.for1 (by (first | decide +kernel | (unfold isGlob; decide +kernel))) (by decide) (by first | exact .inl (by (first | decide +kernel | (unfold isGlob; decide +kernel))) | exact .inr (by (first | decide +kernel | (unfold isGlob; decide +kernel)))) ?_ ?_ (fun _ _ => rfl))
    | ((with_reducible show SimS _ _ (.for2 _ _ _ _) _); refine SimS.for2 (by (first | decide +kernel | (unfold isGlob; decide +kernel))) (by (first | decide +kernel | (unfold isGlob; decide +kernel))) (by decide) (by decide) (by decide) (by (first | decide +kernel | (unfold isGlob; decide +kernel))) (by (first | decide +kernel | (unfold isGlob; decide +kernel))) ?_ ?_ (fun _ _ => rfl))
    | ((with_reducible show SimS _ _ (.ret _) _); refine SimS.ret ?_)
    | ((with_reducible show SimS _ _ .retAcc _); exact SimS.retAcc (by (first | decide +kernel | (unfold isGlob; decide +kernel))) (by (first | decide +kernel | (unfold isGlob; decide +kernel))))
    | ((with_reducible show SimEs _ _ [] _); exact SimEs.nil)
    | ((with_reducible show SimEs _ _ (_ :: _) _); refine SimEs.cons ?_ rfl ?_)
    | ((with_reducible show SimO _ _ none _); exact SimO.none)
    | ((with_reducible show SimO _ _ (some _) _); refine SimO.some ?_)
    | ((with_reducible show SimI _ _ (.range _) _); refine SimI.range (by (first | decide +kernel | (unfold isGlob; decide +kernel))) ?_ rfl)
    | ((with_reducible show SimI _ _ (.seq _) _); refine SimI.seq ?_)
    | ((with_reducible show SimT _ _ (.cmp _ _ _) _); refine SimT.cmp ?_ ?_ rfl)
    | ((with_reducible show SimT _ _ (.and _ _) _); refine SimT.and ?_ ?_)
    | ((with_reducible show SimT _ _ (.isIn _ _ _) _); refine SimT.isIn ?_)
    | ((with_reducible show SimE _ _ .fls _); exact SimE.fls)
    | ((with_reducible show SimE _ _ (.int _) _); exact SimE.int)
    | ((with_reducible show SimE _ _ (.str _) _); exact SimE.str)
    | ((with_reducible show SimE _ _ (.neg _) _); refine SimE.neg ?_)
    | ((with_reducible show SimE _ _ (.var _) _); exact SimE.var (by (first | decide +kernel | (unfold isGlob; decide +kernel))) (by (first | decide +kernel | (unfold isGlob; decide +kernel))) (by (first | decide +kernel | (unfold isGlob; decide +kernel))))
    | ((with_reducible show SimE _ _ (.bin _ _ _) _); refine SimE.bin ?_ ?_)
    | ((with_reducible show SimE _ _ (.ife _ _ _) _); refine SimE.ife ?_ ?_ ?_)
    | ((with_reducible show SimE _ _ (.cmp _ _ _) _); refine SimE.cmp ?_ ?_ rfl)
    | ((with_reducible show SimE _ _ (.idx _ _) _); refine SimE.idx ?_ ?_ rfl)
    | ((with_reducible show SimE _ _ (.slcT _ _) _); refine SimE.slcT ?_ ?_ (fun _ _ => rfl))
    | ((with_reducible show SimE _ _ (.slc _ _ _) _); refine SimE.slc ?_ ?_ ?_ (fun _ _ => rfl))
    | ((with_reducible show SimE _ _ (.list _) _); refine SimE.list ?_)
    | ((with_reducible show SimE _ _ (.tup _) _); refine SimE.tup ?_)
    | ((with_reducible show SimE _ _ (.rep _ _) _); refine SimE.rep ?_ ?_ rfl)
    | ((with_reducible show SimE _ _ (.comp _ _ _ _ _) _); refine SimE.comp ?_ (by (exact ⟨rfl, by decide +kernel, by decide +kernel, by decide +kernel, by decide +kernel, by decide +kernel⟩)) (by (first | decide +kernel | (unfold isGlob; decide +kernel))) ?_ ?_ (fun _ _ => rfl))
    | ((with_reducible show SimE _ _ (.comp2 _ _ _ _ _ _) _); refine SimE.comp2 ?_ (by (exact ⟨rfl, by decide +kernel, by decide +kernel, by decide +kernel, by decide +kernel, by decide +kernel⟩)) (by (first | decide +kernel | (unfold isGlob; decide +kernel))) (by (first | decide +kernel | (unfold isGlob; decide +kernel))) (by decide) ?_ ?_ (fun _ _ => rfl) (fun _ _ => rfl))
    | ((with_reducible show SimE _ _ (.call _ _) _); refine SimE.call (by decide) (by (first | decide +kernel | (unfold isGlob; decide +kernel))) (by (first | decide +kernel | (unfold isGlob; decide +kernel))) (by (first | decide +kernel | (unfold isGlob; decide +kernel))) ?_)
    | ((with_reducible show SimE _ _ (.len _) _); refine SimE.len (by (first | decide +kernel | (unfold isGlob; decide +kernel))) ?_ rfl)
    | ((with_reducible show SimE _ _ (.sum _) _); refine SimE.sum (by (first | decide +kernel | (unfold isGlob; decide +kernel))) ?_ rfl)
    | ((with_reducible show SimE _ _ (.max _ _) _); refine SimE.max (by (first | decide +kernel | (unfold isGlob; decide +kernel))) ?_ ?_ rfl rfl)
    | ((with_reducible show SimE _ _ (.sorted _) _); refine SimE.sorted (by (first | decide +kernel | (unfold isGlob; decide +kernel))) ?_ rfl)
    | ((with_reducible show SimE _ _ (.encode _) _); refine SimE.encode ?_ (fun env => ⟨_, rfl⟩))
    | ((with_reducible show SimE _ _ (.split _) _); refine SimE.split ?_ (fun env => ⟨_, rfl⟩))
    | ((with_reducible show SimE _ _ .accLen _); exact SimE.accLen (by (first | decide +kernel | (unfold isGlob; decide +kernel))) (by (first | decide +kernel | (unfold isGlob; decide +kernel))) (by (first | decide +kernel | (unfold isGlob; decide +kernel))))
    | ((with_reducible show SimE _ _ (.accL _) _); refine SimE.accL (by (first | decide +kernel | (unfold isGlob; decide +kernel))) (by (first | decide +kernel | (unfold isGlob; decide +kernel))) (by (first | decide +kernel | (unfold isGlob; decide +kernel))) ?_ rfl)
    | ((with_reducible show SimE _ _ (.accR _) _); refine SimE.accR (by (first | decide +kernel | (unfold isGlob; decide +kernel))) (by (first | decide +kernel | (unfold isGlob; decide +kernel))) (by (first | decide +kernel | (unfold isGlob; decide +kernel))) ?_ rfl)
    | ((with_reducible show SimE _ _ (.accAdd _) _); refine SimE.accAdd (by (first | decide +kernel | (unfold isGlob; decide +kernel))) (by (first | decide +kernel | (unfold isGlob; decide +kernel))) ?_))
theorem d1 (p : Params) : DefOK (FK p) 1 ⟨[3], kindsB⟩ := by
  refine ⟨⟨_, _, 4, _, _, _, _, _, rfl, rfl, rfl, rfl, rfl, rfl, rfl, bind1_all (fun v => rfl), rfl, rfl, rfl, rfl, rfl, rfl, ps1 (by first | exact .inl (by decide +kernel) | exact .inr (by decide +kernel)), by decide, by decide, ?_⟩⟩
  show SimSs 4 _ kindsB _
  unfold kindsB
  repeat (first
    | ((with_reducible show SimSs _ _ [] _); exact SimSs.nil)
    | ((with_reducible show SimSs _ _ (_ :: _) _); refine SimSs.cons ?_ ?_)
    | ((with_reducible show SimS _ _ (.asg _ (.comp _ _ _ _ _)) _); refine SimS.asgC (by (first | decide +kernel | (unfold isGlob; decide +kernel))) (by decide) (by (first | decide +kernel | (unfold isGlob; decide +kernel))) rfl (by (first | decide +kernel | (unfold isGlob; decide +kernel))) ?_)
    | ((with_reducible show SimS _ _ (.asg _ _) _); refine SimS.asg (by (first | decide +kernel | (unfold isGlob; decide +kernel))) (by decide) (by first | exact .inl ⟨by (first | decide +kernel | (unfold isGlob; decide +kernel)), rfl⟩ | exact .inr (by (first | decide +kernel | (unfold isGlob; decide +kernel)))) ?_)
    | ((with_reducible show SimS _ _ .acc _); exact SimS.acc (by (first | decide +kernel | (unfold isGlob; decide +kernel))) (by (first | decide +kernel | (unfold isGlob; decide +kernel))))
    | ((with_reducible show SimS _ _ (.app _) _); refine SimS.app (by (first | decide +kernel | (unfold isGlob; decide +kernel))) (by (first | decide +kernel | (unfold isGlob; decide +kernel))) ?_ rfl (fun env => ⟨_, rfl⟩))
    | ((with_reducible show SimS _ _ (.ins _) _); refine SimS.ins (by (first | decide +kernel | (unfold isGlob; decide +kernel))) (by (first | decide +kernel | (unfold isGlob; decide +kernel))) (by (first | decide +kernel | (unfold isGlob; decide +kernel))) ?_ rfl)
    | ((with_reducible show SimS _ _ (.mov _) _); exact SimS.mov (by (first | decide +kernel | (unfold isGlob; decide +kernel))) (by decide) (by (first | decide +kernel | (unfold isGlob; decide +kernel))) (by (first | decide +kernel | (unfold isGlob; decide +kernel))) (by (first | decide +kernel | (unfold isGlob; decide +kernel))))
    | ((with_reducible show SimS _ _ (.ifs _ _ _) _); refine SimS.ifs ?_ ?_ ?_)
    | ((with_reducible show SimS _ _ (.for1 _ _ _) _); refine SimS.for1 (by (first | decide +kernel | (unfold isGlob; decide +kernel))) (by decide) (by first | exact .inl (by (first | decide +kernel | (unfold isGlob; decide +kernel))) | exact .inr (by (first | decide +kernel | (unfold isGlob; decide +kernel)))) ?_ ?_ (fun _ _ => rfl))
    | ((with_reducible show SimS _ _ (.for2 _ _ _ _) _); refine SimS.for2 (by (first | decide +kernel | (unfold isGlob; decide +kernel))) (by (first | decide +kernel | (unfold isGlob; decide +kernel))) (by decide) (by decide) (by decide) (by (first | decide +kernel | (unfold isGlob; decide +kernel))) (by (first | decide +kernel | (unfold isGlob; decide +kernel))) ?_ ?_ (fun _ _ => rfl))
    | ((with_reducible show SimS _ _ (.ret _) _); refine SimS.ret ?_)
    | ((with_reducible show SimS _ _ .retAcc _); exact SimS.retAcc (by (first | decide +kernel | (unfold isGlob; decide +kernel))) (by (first | decide +kernel | (unfold isGlob; decide +kernel))))
    | ((with_reducible show SimEs _ _ [] _); exact SimEs.nil)
    | ((with_reducible show SimEs _ _ (_ :: _) _); refine SimEs.cons ?_ rfl ?_)
    | ((with_reducible show SimO _ _ none _); exact SimO.none)
    | ((with_reducible show SimO _ _ (some _) _); refine SimO.some ?_)
    | ((with_reducible show SimI _ _ (.range _) _); refine SimI.range (by (first | decide +kernel | (unfold isGlob; decide +kernel))) ?_ rfl)
    | ((with_reducible show SimI _ _ (.seq _) _); refine SimI.seq ?_)
    | ((with_reducible show SimT _ _ (.cmp _ _ _) _); refine SimT.cmp ?_ ?_ rfl)
    | ((with_reducible show SimT _ _ (.and _ _) _); refine SimT.and ?_ ?_)
    | ((with_reducible show SimT _ _ (.isIn _ _ _) _); refine SimT.isIn ?_)
    | ((with_reducible show SimE _ _ .fls _); exact SimE.fls)
    | ((with_reducible show SimE _ _ (.int _) _); exact SimE.int)
    | ((with_reducible show SimE _ _ (.str _) _); exact SimE.str)
    | ((with_reducible show SimE _ _ (.neg _) _); refine SimE.neg ?_)
    | ((with_reducible show SimE _ _ (.var _) _); exact SimE.var (by (first | decide +kernel | (unfold isGlob; decide +kernel))) (by (first | decide +kernel | (unfold isGlob; decide +kernel))) (by (first | decide +kernel | (unfold isGlob; decide +kernel))))
    | ((with_reducible show SimE _ _ (.bin _ _ _) _); refine SimE.bin ?_ ?_)
    | ((with_reducible show SimE _ _ (.ife _ _ _) _); refine SimE.ife ?_ ?_ ?_)
    | ((with_reducible show SimE _ _ (.cmp _ _ _) _); refine SimE.cmp ?_ ?_ rfl)
    | ((with_reducible show SimE _ _ (.idx _ _) _); refine SimE.idx ?_ ?_ rfl)
    | ((with_reducible show SimE _ _ (.slcT _ _) _); refine SimE.slcT ?_ ?_ (fun _ _ => rfl))
    | ((with_reducible show SimE _ _ (.slc _ _ _) _); refine SimE.slc ?_ ?_ ?_ (fun _ _ => rfl))
    | ((with_reducible show SimE _ _ (.list _) _); refine SimE.list ?_)
    | ((with_reducible show SimE _ _ (.tup _) _); refine SimE.tup ?_)
    | ((with_reducible show SimE _ _ (.rep _ _) _); refine SimE.rep ?_ ?_ rfl)
    | ((with_reducible show SimE _ _ (.comp _ _ _ _ _) _); refine SimE.comp ?_ (by (exact ⟨rfl, by decide +kernel, by decide +kernel, by decide +kernel, by decide +kernel, by decide +kernel⟩)) (by (first | decide +kernel | (unfold isGlob; decide +kernel))) ?_ ?_ (fun _ _ => rfl))
    | ((with_reducible show SimE _ _ (.comp2 _ _ _ _ _ _) _); refine SimE.comp2 ?_ (by (exact ⟨rfl, by decide +kernel, by decide +kernel, by decide +kernel, by decide +kernel, by decide +kernel⟩)) (by (first | decide +kernel | (unfold isGlob; decide +kernel))) (by (first | decide +kernel | (unfold isGlob; decide +kernel))) (by decide) ?_ ?_ (fun _ _ => rfl) (fun _ _ => rfl))
    | ((with_reducible show SimE _ _ (.call _ _) _); refine SimE.call (by decide) (by (first | decide +kernel | (unfold isGlob; decide +kernel))) (by (first | decide +kernel | (unfold isGlob; decide +kernel))) (by (first | decide +kernel | (unfold isGlob; decide +kernel))) ?_)
    | ((with_reducible show SimE _ _ (.len _) _); refine SimE.len (by (first | decide +kernel | (unfold isGlob; decide +kernel))) ?_ rfl)
    | ((with_reducible show SimE _ _ (.sum _) _); refine SimE.sum (by (first | decide +kernel | (unfold isGlob; decide +kernel))) ?_ rfl)
    | ((with_reducible show SimE _ _ (.max _ _) _); refine SimE.max (by (first | decide +kernel | (unfold isGlob; decide +kernel))) ?_ ?_ rfl rfl)
    | ((with_reducible show SimE _ _ (.sorted _) _); refine SimE.sorted (by (first | decide +kernel | (unfold isGlob; decide +kernel))) ?_ rfl)
    | ((with_reducible show SimE _ _ (.encode _) _); refine SimE.encode ?_ (fun env => ⟨_, rfl⟩))
    | ((with_reducible show SimE _ _ (.split _) _); refine SimE.split ?_ (fun env => ⟨_, rfl⟩))
    | ((with_reducible show SimE _ _ .accLen _); exact SimE.accLen (by (first | decide +kernel | (unfold isGlob; decide +kernel))) (by (first | decide +kernel | (unfold isGlob; decide +kernel))) (by (first | decide +kernel | (unfold isGlob; decide +kernel))))
    | ((with_reducible show SimE _ _ (.accL _) _); refine SimE.accL (by (first | decide +kernel | (unfold isGlob; decide +kernel))) (by (first | decide +kernel | (unfold isGlob; decide +kernel))) (by (first | decide +kernel | (unfold isGlob; decide +kernel))) ?_ rfl)
    | ((with_reducible show SimE _ _ (.accR _) _); refine SimE.accR (by (first | decide +kernel | (unfold isGlob; decide +kernel))) (by (first | decide +kernel | (unfold isGlob; decide +kernel))) (by (first | decide +kernel | (unfold isGlob; decide +kernel))) ?_ rfl)
    | ((with_reducible show SimE _ _ (.accAdd _) _); refine SimE.accAdd (by (first | decide +kernel | (unfold isGlob; decide +kernel))) (by (first | decide +kernel | (unfold isGlob; decide +kernel))) ?_))
theorem d2 (p : Params) : DefOK (FK p) 2 ⟨[3, 4], mailB⟩ := by
  refine ⟨⟨_, _, 99, _, _, _, _, _, rfl, rfl, rfl, rfl, rfl, rfl, rfl, bind2_all (fun v u => rfl), rfl, rfl, rfl, rfl, rfl, rfl, ps2 (by first | exact .inl (by decide +kernel) | exact .inr (by decide +kernel)) (by first | exact .inl (by decide +kernel) | exact .inr (by decide +kernel)), by decide, by decide, ?_⟩⟩
  show SimSs 99 _ mailB _
  unfold mailB
  repeat (first
    | ((with_reducible show SimSs _ _ [] _); exact SimSs.nil)
    | ((with_reducible show SimSs _ _ (_ :: _) _); refine SimSs.cons ?_ ?_)
    | ((with_reducible show SimS _ _ (.asg _ (.comp _ _ _ _ _)) _); refine SimS.asgC (by (first | decide +kernel | (unfold isGlob; decide +kernel))) (by decide) (by (first | decide +kernel | (unfold isGlob; decide +kernel))) rfl (by (first | decide +kernel | (unfold isGlob; decide +kernel))) ?_)
    | ((with_reducible show SimS _ _ (.asg _ _) _); refine SimS.asg (by (first | decide +kernel | (unfold isGlob; decide +kernel))) (by decide) (by first | exact .inl ⟨by (first | decide +kernel | (unfold isGlob; decide +kernel)), rfl⟩ | exact .inr (by (first | decide +kernel | (unfold isGlob; decide +kernel)))) ?_)
    | ((with_reducible show SimS _ _ .acc _); exact SimS.acc (by (first | decide +kernel | (unfold isGlob; decide +kernel))) (by (first | decide +kernel | (unfold isGlob; decide +kernel))))
    | ((with_reducible show SimS _ _ (.app _) _); refine SimS.app (by (first | decide +kernel | (unfold isGlob; decide +kernel))) (by (first | decide +kernel | (unfold isGlob; decide +kernel))) ?_ rfl (fun env => ⟨_, rfl⟩))
    | ((with_reducible show SimS _ _ (.ins _) _); refine SimS.ins (by (first | decide +kernel | (unfold isGlob; decide +kernel))) (by (first | decide +kernel | (unfold isGlob; decide +kernel))) (by (first | decide +kernel | (unfold isGlob; decide +kernel))) ?_ rfl)
    | ((with_reducible show SimS _ _ (.mov _) _); exact SimS.mov (by (first | decide +kernel | (unfold isGlob; decide +kernel))) (by decide) (by (first | decide +kernel | (unfold isGlob; decide +kernel))) (by (first | decide +kernel | (unfold isGlob; decide +kernel))) (by (first | decide +kernel | (unfold isGlob; decide +kernel))))
    | ((with_reducible show SimS _ _ (.ifs _ _ _) _); refine SimS.ifs ?_ ?_ ?_)
    | ((with_reducible show SimS _ _ (.for1 _ _ _) _); refine SimS.for1 (by (first | decide +kernel | (unfold isGlob; decide +kernel))) (by decide) (by first | exact .inl (by (first | decide +kernel | (unfold isGlob; decide +kernel))) | exact .inr (by (first | decide +kernel | (unfold isGlob; decide +kernel)))) ?_ ?_ (fun _ _ => rfl))
    | ((with_reducible show SimS _ _ (.for2 _ _ _ _) _); refine SimS.for2 (by (first | decide +kernel | (unfold isGlob; decide +kernel))) (by (first | decide +kernel | (unfold isGlob; decide +kernel))) (by decide) (by decide) (by decide) (by (first | decide +kernel | (unfold isGlob; decide +kernel))) (by (first | decide +kernel | (unfold isGlob; decide +kernel))) ?_ ?_ (fun _ _ => rfl))
    | ((with_reducible show SimS _ _ (.ret _) _); refine SimS.ret ?_)
    | ((with_reducible show SimS _ _ .retAcc _); exact SimS.retAcc (by (first | decide +kernel | (unfold isGlob; decide +kernel))) (by (first | decide +kernel | (unfold isGlob; decide +kernel))))
    | ((with_reducible show SimEs _ _ [] _); exact SimEs.nil)
    | ((with_reducible show SimEs _ _ (_ :: _) _); refine SimEs.cons ?_ rfl ?_)
    | ((with_reducible show SimO _ _ none _); exact SimO.none)
    | ((with_reducible show SimO _ _ (some _) _); refine SimO.some ?_)
    | ((with_reducible show SimI _ _ (.range _) _); refine SimI.range (by (first | decide +kernel | (unfold isGlob; decide +kernel))) ?_ rfl)
    | ((with_reducible show SimI _ _ (.seq _) _); refine SimI.seq ?_)
    | ((with_reducible show SimT _ _ (.cmp _ _ _) _); refine SimT.cmp ?_ ?_ rfl)
    | ((with_reducible show SimT _ _ (.and _ _) _); refine SimT.and ?_ ?_)
    | ((with_reducible show SimT _ _ (.isIn _ _ _) _); refine SimT.isIn ?_)
    | ((with_reducible show SimE _ _ .fls _); exact SimE.fls)
    | ((with_reducible show SimE _ _ (.int _) _); exact SimE.int)
    | ((with_reducible show SimE _ _ (.str _) _); exact SimE.str)
    | ((with_reducible show SimE _ _ (.neg _) _); refine SimE.neg ?_)
    | ((with_reducible show SimE _ _ (.var _) _); exact SimE.var (by (first | decide +kernel | (unfold isGlob; decide +kernel))) (by (first | decide +kernel | (unfold isGlob; decide +kernel))) (by (first | decide +kernel | (unfold isGlob; decide +kernel))))
    | ((with_reducible show SimE _ _ (.bin _ _ _) _); refine SimE.bin ?_ ?_)
    | ((with_reducible show SimE _ _ (.ife _ _ _) _); refine SimE.ife ?_ ?_ ?_)
    | ((with_reducible show SimE _ _ (.cmp _ _ _) _); refine SimE.cmp ?_ ?_ rfl)
    | ((with_reducible show SimE _ _ (.idx _ _) _); refine SimE.idx ?_ ?_ rfl)
    | ((with_reducible show SimE _ _ (.slcT _ _) _); refine SimE.slcT ?_ ?_ (fun _ _ => rfl))
    | ((with_reducible show SimE _ _ (.slc _ _ _) _); refine SimE.slc ?_ ?_ ?_ (fun _ _ => rfl))
    | ((with_reducible show SimE _ _ (.list _) _); refine SimE.list ?_)
    | ((with_reducible show SimE _ _ (.tup _) _); refine SimE.tup ?_)
    | ((with_reducible show SimE _ _ (.rep _ _) _); refine SimE.rep ?_ ?_ rfl)
    | ((with_reducible show SimE _ _ (.comp _ _ _ _ _) _); refine SimE.comp ?_ (by (exact ⟨rfl, by decide +kernel, by decide +kernel, by decide +kernel, by decide +kernel, by decide +kernel⟩)) (by (first | decide +kernel | (unfold isGlob; decide +kernel))) ?_ ?_ (fun _ _ => rfl))
    | ((with_reducible show SimE _ _ (.comp2 _ _ _ _ _ _) _); refine SimE.comp2 ?_ (by (exact ⟨rfl, by decide +kernel, by decide +kernel, by decide +kernel, by decide +kernel, by decide +kernel⟩)) (by (first | decide +kernel | (unfold isGlob; decide +kernel))) (by (first | decide +kernel | (unfold isGlob; decide +kernel))) (by decide) ?_ ?_ (fun _ _ => rfl) (fun _ _ => rfl))
    | ((with_reducible show SimE _ _ (.call _ _) _); refine SimE.call (by decide) (by (first | decide +kernel | (unfold isGlob; decide +kernel))) (by (first | decide +kernel | (unfold isGlob; decide +kernel))) (by (first | decide +kernel | (unfold isGlob; decide +kernel))) ?_)
    | ((with_reducible show SimE _ _ (.len _) _); refine SimE.len (by (first | decide +kernel | (unfold isGlob; decide +kernel))) ?_ rfl)
    | ((with_reducible show SimE _ _ (.sum _) _); refine SimE.sum (by (first | decide +kernel | (unfold isGlob; decide +kernel))) ?_ rfl)
    | ((with_reducible show SimE _ _ (.max _ _) _); refine SimE.max (by (first | decide +kernel | (unfold isGlob; decide +kernel))) ?_ ?_ rfl rfl)
    | ((with_reducible show SimE _ _ (.sorted _) _); refine SimE.sorted (by (first | decide +kernel | (unfold isGlob; decide +kernel))) ?_ rfl)
    | ((with_reducible show SimE _ _ (.encode _) _); refine SimE.encode ?_ (fun env => ⟨_, rfl⟩))
    | ((with_reducible show SimE _ _ (.split _) _); refine SimE.split ?_ (fun env => ⟨_, rfl⟩))
    | ((with_reducible show SimE _ _ .accLen _); exact SimE.accLen (by (first | decide +kernel | (unfold isGlob; decide +kernel))) (by (first | decide +kernel | (unfold isGlob; decide +kernel))) (by (first | decide +kernel | (unfold isGlob; decide +kernel))))
    | ((with_reducible show SimE _ _ (.accL _) _); refine SimE.accL (by (first | decide +kernel | (unfold isGlob; decide +kernel))) (by (first | decide +kernel | (unfold isGlob; decide +kernel))) (by (first | decide +kernel | (unfold isGlob; decide +kernel))) ?_ rfl)
    | ((with_reducible show SimE _ _ (.accR _) _); refine SimE.accR (by (first | decide +kernel | (unfold isGlob; decide +kernel))) (by (first | decide +kernel | (unfold isGlob; decide +kernel))) (by (first | decide +kernel | (unfold isGlob; decide +kernel))) ?_ rfl)
    | ((with_reducible show SimE _ _ (.accAdd _) _); refine SimE.accAdd (by (first | decide +kernel | (unfold isGlob; decide +kernel))) (by (first | decide +kernel | (unfold isGlob; decide +kernel))) ?_))
theorem d3 (p : Params) : DefOK (FK p) 3 ⟨[11], depthsB⟩ := by
  refine ⟨⟨_, _, 12, _, _, _, _, _, rfl, rfl, rfl, rfl, rfl, rfl, rfl, bind1_all (fun v => rfl), rfl, rfl, rfl, rfl, rfl, rfl, ps1 (by first | exact .inl (by decide +kernel) | exact .inr (by decide +kernel)), by decide, by decide, ?_⟩⟩
  show SimSs 12 _ depthsB _
  unfold depthsB
  repeat (first
    | ((with_reducible show SimSs _ _ [] _); exact SimSs.nil)
    | ((with_reducible show SimSs _ _ (_ :: _) _); refine SimSs.cons ?_ ?_)
    | ((with_reducible show SimS _ _ (.asg _ (.comp _ _ _ _ _)) _); refine SimS.asgC (by (first | decide +kernel | (unfold isGlob; decide +kernel))) (by decide) (by (first | decide +kernel | (unfold isGlob; decide +kernel))) rfl (by (first | decide +kernel | (unfold isGlob; decide +kernel))) ?_)
    | ((with_reducible show SimS _ _ (.asg _ _) _); refine SimS.asg (by (first | decide +kernel | (unfold isGlob; decide +kernel))) (by decide) (by first | exact .inl ⟨by (first | decide +kernel | (unfold isGlob; decide +kernel)), rfl⟩ | exact .inr (by (first | decide +kernel | (unfold isGlob; decide +kernel)))) ?_)
    | ((with_reducible show SimS _ _ .acc _); exact SimS.acc (by (first | decide +kernel | (unfold isGlob; decide +kernel))) (by (first | decide +kernel | (unfold isGlob; decide +kernel))))
    | ((with_reducible show SimS _ _ (.app _) _); refine SimS.app (by (first | decide +kernel | (unfold isGlob; decide +kernel))) (by (first | decide +kernel | (unfold isGlob; decide +kernel))) ?_ rfl (fun env => ⟨_, rfl⟩))
    | ((with_reducible show SimS _ _ (.ins _) _); refine SimS.ins (by (first | decide +kernel | (unfold isGlob; decide +kernel))) (by (first | decide +kernel | (unfold isGlob; decide +kernel))) (by (first | decide +kernel | (unfold isGlob; decide +kernel))) ?_ rfl)
    | ((with_reducible show SimS _ _ (.mov _) _); exact SimS.mov (by (first | decide +kernel | (unfold isGlob; decide +kernel))) (by decide) (by (first | decide +kernel | (unfold isGlob; decide +kernel))) (by (first | decide +kernel | (unfold isGlob; decide +kernel))) (by (first | decide +kernel | (unfold isGlob; decide +kernel))))
    | ((with_reducible show SimS _ _ (.ifs _ _ _) _); refine SimS.ifs ?_ ?_ ?_)
    | ((with_reducible show SimS _ _ (.for1 _ _ _) _); refine SimS.for1 (by (first | decide +kernel | (unfold isGlob; decide +kernel))) (by decide) (by first | exact .inl (by (first | decide +kernel | (unfold isGlob; decide +kernel))) | exact .inr (by (first | decide +kernel | (unfold isGlob; decide +kernel)))) ?_ ?_ (fun _ _ => rfl))
    | ((with_reducible show SimS _ _ (.for2 _ _ _ _) _); refine SimS.for2 (by (first | decide +kernel | (unfold isGlob; decide +kernel))) (by (first | decide +kernel | (unfold isGlob; decide +kernel))) (by decide) (by decide) (by decide) (by (first | decide +kernel | (unfold isGlob; decide +kernel))) (by (first | decide +kernel | (unfold isGlob; decide +kernel))) ?_ ?_ (fun _ _ => rfl))
    | ((with_reducible show SimS _ _ (.ret _) _); refine SimS.ret ?_)
    | ((with_reducible show SimS _ _ .retAcc _); exact SimS.retAcc (by (first | decide +kernel | (unfold isGlob; decide +kernel))) (by (first | decide +kernel | (unfold isGlob; decide +kernel))))
    | ((with_reducible show SimEs _ _ [] _); exact SimEs.nil)
    | ((with_reducible show SimEs _ _ (_ :: _) _); refine SimEs.cons ?_ rfl ?_)
    | ((with_reducible show SimO _ _ none _); exact SimO.none)
    | ((with_reducible show SimO _ _ (some _) _); refine SimO.some ?_)
    | ((with_reducible show SimI _ _ (.range _) _); refine SimI.range (by (first | decide +kernel | (unfold isGlob; decide +kernel))) ?_ rfl)
    | ((with_reducible show SimI _ _ (.seq _) _); refine SimI.seq ?_)
    | ((with_reducible show SimT _ _ (.cmp _ _ _) _); refine SimT.cmp ?_ ?_ rfl)
    | ((with_reducible show SimT _ _ (.and _ _) _); refine SimT.and ?_ ?_)
    | ((with_reducible show SimT _ _ (.isIn _ _ _) _); refine SimT.isIn ?_)
    | ((with_reducible show SimE _ _ .fls _); exact SimE.fls)
    | ((with_reducible show SimE _ _ (.int _) _); exact SimE.int)
    | ((with_reducible show SimE _ _ (.str _) _); exact SimE.str)
    | ((with_reducible show SimE _ _ (.neg _) _); refine SimE.neg ?_)
    | ((with_reducible show SimE _ _ (.var _) _); exact SimE.var (by (first | decide +kernel | (unfold isGlob; decide +kernel))) (by (first | decide +kernel | (unfold isGlob; decide +kernel))) (by (first | decide +kernel | (unfold isGlob; decide +kernel))))
    | ((with_reducible show SimE _ _ (.bin _ _ _) _); refine SimE.bin ?_ ?_)
    | ((with_reducible show SimE _ _ (.ife _ _ _) _); refine SimE.ife ?_ ?_ ?_)
    | ((with_reducible show SimE _ _ (.cmp _ _ _) _); refine SimE.cmp ?_ ?_ rfl)
    | ((with_reducible show SimE _ _ (.idx _ _) _); refine SimE.idx ?_ ?_ rfl)
    | ((with_reducible show SimE _ _ (.slcT _ _) _); refine SimE.slcT ?_ ?_ (fun _ _ => rfl))
    | ((with_reducible show SimE _ _ (.slc _ _ _) _); refine SimE.slc ?_ ?_ ?_ (fun _ _ => rfl))
    | ((with_reducible show SimE _ _ (.list _) _); refine SimE.list ?_)
    | ((with_reducible show SimE _ _ (.tup _) _); refine SimE.tup ?_)
    | ((with_reducible show SimE _ _ (.rep _ _) _); refine SimE.rep ?_ ?_ rfl)
    | ((with_reducible show SimE _ _ (.comp _ _ _ _ _) _); refine SimE.comp ?_ (by (exact ⟨rfl, by decide +kernel, by decide +kernel, by decide +kernel, by decide +kernel, by decide +kernel⟩)) (by (first | decide +kernel | (unfold isGlob; decide +kernel))) ?_ ?_ (fun _ _ => rfl))
    | ((with_reducible show SimE _ _ (.comp2 _ _ _ _ _ _) _); refine SimE.comp2 ?_ (by (exact ⟨rfl, by decide +kernel, by decide +kernel, by decide +kernel, by decide +kernel, by decide +kernel⟩)) (by (first | decide +kernel | (unfold isGlob; decide +kernel))) (by (first | decide +kernel | (unfold isGlob; decide +kernel))) (by decide) ?_ ?_ (fun _ _ => rfl) (fun _ _ => rfl))
    | ((with_reducible show SimE _ _ (.call _ _) _); refine SimE.call (by decide) (by (first | decide +kernel | (unfold isGlob; decide +kernel))) (by (first | decide +kernel | (unfold isGlob; decide +kernel))) (by (first | decide +kernel | (unfold isGlob; decide +kernel))) ?_)
    | ((with_reducible show SimE _ _ (.len _) _); refine SimE.len (by (first | decide +kernel | (unfold isGlob; decide +kernel))) ?_ rfl)
    | ((with_reducible show SimE _ _ (.sum _) _); refine SimE.sum (by (first | decide +kernel | (unfold isGlob; decide +kernel))) ?_ rfl)
    | ((with_reducible show SimE _ _ (.max _ _) _); refine SimE.max (by (first | decide +kernel | (unfold isGlob; decide +kernel))) ?_ ?_ rfl rfl)
    | ((with_reducible show SimE _ _ (.sorted _) _); refine SimE.sorted (by (first | decide +kernel | (unfold isGlob; decide +kernel))) ?_ rfl)
    | ((with_reducible show SimE _ _ (.encode _) _); refine SimE.encode ?_ (fun env => ⟨_, rfl⟩))
    | ((with_reducible show SimE _ _ (.split _) _); refine SimE.split ?_ (fun env => ⟨_, rfl⟩))
    | ((with_reducible show SimE _ _ .accLen _); exact SimE.accLen (by (first | decide +kernel | (unfold isGlob; decide +kernel))) (by (first | decide +kernel | (unfold isGlob; decide +kernel))) (by (first | decide +kernel | (unfold isGlob; decide +kernel))))
    | ((with_reducible show SimE _ _ (.accL _) _); refine SimE.accL (by (first | decide +kernel | (unfold isGlob; decide +kernel))) (by (first | decide +kernel | (unfold isGlob; decide +kernel))) (by (first | decide +kernel | (unfold isGlob; decide +kernel))) ?_ rfl)
    | ((with_reducible show SimE _ _ (.accR _) _); refine SimE.accR (by (first | decide +kernel | (unfold isGlob; decide +kernel))) (by (first | decide +kernel | (unfold isGlob; decide +kernel))) (by (first | decide +kernel | (unfold isGlob; decide +kernel))) ?_ rfl)
    | ((with_reducible show SimE _ _ (.accAdd _) _); refine SimE.accAdd (by (first | decide +kernel | (unfold isGlob; decide +kernel))) (by (first | decide +kernel | (unfold isGlob; decide +kernel))) ?_))
theorem d4 (p : Params) : DefOK (FK p) 4 ⟨[4], websB⟩ := by
  refine ⟨⟨_, _, 16, _, _, _, _, _, rfl, rfl, rfl, rfl, rfl, rfl, rfl, bind1_all (fun v => rfl), rfl, rfl, rfl, rfl, rfl, rfl, ps1 (by first | exact .inl (by decide +kernel) | exact .inr (by decide +kernel)), by decide, by decide, ?_⟩⟩
  show SimSs 16 _ websB _
  unfold websB
  repeat (first
    | ((with_reducible show SimSs _ _ [] _); exact SimSs.nil)
    | ((with_reducible show SimSs _ _ (_ :: _) _); refine SimSs.cons ?_ ?_)
    | ((with_reducible show SimS _ _ (.asg _ (.comp _ _ _ _ _)) _); refine SimS.asgC (by (first | decide +kernel | (unfold isGlob; decide +kernel))) (by decide) (by (first | decide +kernel | (unfold isGlob; decide +kernel))) rfl (by (first | decide +kernel | (unfold isGlob; decide +kernel))) ?_)
    | ((with_reducible show SimS _ _ (.asg _ _) _); refine SimS.asg (by (first | decide +kernel | (unfold isGlob; decide +kernel))) (by decide) (by first | exact .inl ⟨by (first | decide +kernel | (unfold isGlob; decide +kernel)), rfl⟩ | exact .inr (by (first | decide +kernel | (unfold isGlob; decide +kernel)))) ?_)
    | ((with_reducible show SimS _ _ .acc _); exact SimS.acc (by (first | decide +kernel | (unfold isGlob; decide +kernel))) (by (first | decide +kernel | (unfold isGlob; decide +kernel))))
    | ((with_reducible show SimS _ _ (.app _) _); refine SimS.app (by (first | decide +kernel | (unfold isGlob; decide +kernel))) (by (first | decide +kernel | (unfold isGlob; decide +kernel))) ?_ rfl (fun env => ⟨_, rfl⟩))
    | ((with_reducible show SimS _ _ (.ins _) _); refine SimS.ins (by (first | decide +kernel | (unfold isGlob; decide +kernel))) (by (first | decide +kernel | (unfold isGlob; decide +kernel))) (by (first | decide +kernel | (unfold isGlob; decide +kernel))) ?_ rfl)
    | ((with_reducible show SimS _ _ (.mov _) _); exact SimS.mov (by (first | decide +kernel | (unfold isGlob; decide +kernel))) (by decide) (by (first | decide +kernel | (unfold isGlob; decide +kernel))) (by (first | decide +kernel | (unfold isGlob; decide +kernel))) (by (first | decide +kernel | (unfold isGlob; decide +kernel))))
    | ((with_reducible show SimS _ _ (.ifs _ _ _) _); refine SimS.ifs ?_ ?_ ?_)
    | ((with_reducible show SimS _ _ (.for1 _ _ _) _); refine SimS.for1 (by (first | decide +kernel | (unfold isGlob; decide +kernel))) (by decide) (by first | exact .inl (by (first | decide +kernel | (unfold isGlob; decide +kernel))) | exact .inr (by (first | decide +kernel | (unfold isGlob; decide +kernel)))) ?_ ?_ (fun _ _ => rfl))
    | ((with_reducible show SimS _ _ (.for2 _ _ _ _) _); refine SimS.for2 (by (first | decide +kernel | (unfold isGlob; decide +kernel))) (by (first | decide +kernel | (unfold isGlob; decide +kernel))) (by decide) (by decide) (by decide) (by (first | decide +kernel | (unfold isGlob; decide +kernel))) (by (first | decide +kernel | (unfold isGlob; decide +kernel))) ?_ ?_ (fun _ _ => rfl))
    | ((with_reducible show SimS _ _ (.ret _) _); refine SimS.ret ?_)
    | ((with_reducible show SimS _ _ .retAcc _); exact SimS.retAcc (by (first | decide +kernel | (unfold isGlob; decide +kernel))) (by (first | decide +kernel | (unfold isGlob; decide +kernel))))
    | ((with_reducible show SimEs _ _ [] _); exact SimEs.nil)
    | ((with_reducible show SimEs _ _ (_ :: _) _); refine SimEs.cons ?_ rfl ?_)
    | ((with_reducible show SimO _ _ none _); exact SimO.none)
    | ((with_reducible show SimO _ _ (some _) _); refine SimO.some ?_)
    | ((with_reducible show SimI _ _ (.range _) _); refine SimI.range (by (first | decide +kernel | (unfold isGlob; decide +kernel))) ?_ rfl)
    | ((with_reducible show SimI _ _ (.seq _) _); refine SimI.seq ?_)
    | ((with_reducible show SimT _ _ (.cmp _ _ _) _); refine SimT.cmp ?_ ?_ rfl)
    | ((with_reducible show SimT _ _ (.and _ _) _); refine SimT.and ?_ ?_)
    | ((with_reducible show SimT _ _ (.isIn _ _ _) _); refine SimT.isIn ?_)
    | ((with_reducible show SimE _ _ .fls _); exact SimE.fls)
    | ((with_reducible show SimE _ _ (.int _) _); exact SimE.int)
    | ((with_reducible show SimE _ _ (.str _) _); exact SimE.str)
    | ((with_reducible show SimE _ _ (.neg _) _); refine SimE.neg ?_)
    | ((with_reducible show SimE _ _ (.var _) _); exact SimE.var (by (first | decide +kernel | (unfold isGlob; decide +kernel))) (by (first | decide +kernel | (unfold isGlob; decide +kernel))) (by (first | decide +kernel | (unfold isGlob; decide +kernel))))
    | ((with_reducible show SimE _ _ (.bin _ _ _) _); refine SimE.bin ?_ ?_)
    | ((with_reducible show SimE _ _ (.ife _ _ _) _); refine SimE.ife ?_ ?_ ?_)
    | ((with_reducible show SimE _ _ (.cmp _ _ _) _); refine SimE.cmp ?_ ?_ rfl)
    | ((with_reducible show SimE _ _ (.idx _ _) _); refine SimE.idx ?_ ?_ rfl)
    | ((with_reducible show SimE _ _ (.slcT _ _) _); refine SimE.slcT ?_ ?_ (fun _ _ => rfl))
    | ((with_reducible show SimE _ _ (.slc _ _ _) _); refine SimE.slc ?_ ?_ ?_ (fun _ _ => rfl))
    | ((with_reducible show SimE _ _ (.list _) _); refine SimE.list ?_)
    | ((with_reducible show SimE _ _ (.tup _) _); refine SimE.tup ?_)
    | ((with_reducible show SimE _ _ (.rep _ _) _); refine SimE.rep ?_ ?_ rfl)
    | ((with_reducible show SimE _ _ (.comp _ _ _ _ _) _); refine SimE.comp ?_ (by (exact ⟨rfl, by decide +kernel, by decide +kernel, by decide +kernel, by decide +kernel, by decide +kernel⟩)) (by (first | decide +kernel | (unfold isGlob; decide +kernel))) ?_ ?_ (fun _ _ => rfl))
    | ((with_reducible show SimE _ _ (.comp2 _ _ _ _ _ _) _); refine SimE.comp2 ?_ (by (exact ⟨rfl, by decide +kernel, by decide +kernel, by decide +kernel, by decide +kernel, by decide +kernel⟩)) (by (first | decide +kernel | (unfold isGlob; decide +kernel))) (by (first | decide +kernel | (unfold isGlob; decide +kernel))) (by decide) ?_ ?_ (fun _ _ => rfl) (fun _ _ => rfl))
    | ((with_reducible show SimE _ _ (.call _ _) _); refine SimE.call (by decide) (by (first | decide +kernel | (unfold isGlob; decide +kernel))) (by (first | decide +kernel | (unfold isGlob; decide +kernel))) (by (first | decide +kernel | (unfold isGlob; decide +kernel))) ?_)
    | ((with_reducible show SimE _ _ (.len _) _); refine SimE.len (by (first | decide +kernel | (unfold isGlob; decide +kernel))) ?_ rfl)
    | ((with_reducible show SimE _ _ (.sum _) _); refine SimE.sum (by (first | decide +kernel | (unfold isGlob; decide +kernel))) ?_ rfl)
    | ((with_reducible show SimE _ _ (.max _ _) _); refine SimE.max (by (first | decide +kernel | (unfold isGlob; decide +kernel))) ?_ ?_ rfl rfl)
    | ((with_reducible show SimE _ _ (.sorted _) _); refine SimE.sorted (by (first | decide +kernel | (unfold isGlob; decide +kernel))) ?_ rfl)
    | ((with_reducible show SimE _ _ (.encode _) _); refine SimE.encode ?_ (fun env => ⟨_, rfl⟩))
    | ((with_reducible show SimE _ _ (.split _) _); refine SimE.split ?_ (fun env => ⟨_, rfl⟩))
    | ((with_reducible show SimE _ _ .accLen _); exact SimE.accLen (by (first | decide +kernel | (unfold isGlob; decide +kernel))) (by (first | decide +kernel | (unfold isGlob; decide +kernel))) (by (first | decide +kernel | (unfold isGlob; decide +kernel))))
    | ((with_reducible show SimE _ _ (.accL _) _); refine SimE.accL (by (first | decide +kernel | (unfold isGlob; decide +kernel))) (by (first | decide +kernel | (unfold isGlob; decide +kernel))) (by (first | decide +kernel | (unfold isGlob; decide +kernel))) ?_ rfl)
    | ((with_reducible show SimE _ _ (.accR _) _); refine SimE.accR (by (first | decide +kernel | (unfold isGlob; decide +kernel))) (by (first | decide +kernel | (unfold isGlob; decide +kernel))) (by (first | decide +kernel | (unfold isGlob; decide +kernel))) ?_ rfl)
    | ((with_reducible show SimE _ _ (.accAdd _) _); refine SimE.accAdd (by (first | decide +kernel | (unfold isGlob; decide +kernel))) (by (first | decide +kernel | (unfold isGlob; decide +kernel))) ?_))
theorem d5 (p : Params) : DefOK (FK p) 5 ⟨[18], toldB⟩ := by
  refine ⟨⟨_, _, 23, _, _, _, _, _, rfl, rfl, rfl, rfl, rfl, rfl, rfl, bind1_all (fun v => rfl), rfl, rfl, rfl, rfl, rfl, rfl, ps1 (by first | exact .inl (by decide +kernel) | exact .inr (by decide +kernel)), by decide, by decide, ?_⟩⟩
  show SimSs 23 _ toldB _
  unfold toldB
  repeat (first
    | ((with_reducible show SimSs _ _ [] _); exact SimSs.nil)
    | ((with_reducible show SimSs _ _ (_ :: _) _); refine SimSs.cons ?_ ?_)
    | ((with_reducible show SimS _ _ (.asg _ (.comp _ _ _ _ _)) _); refine SimS.asgC (by (first | decide +kernel | (unfold isGlob; decide +kernel))) (by decide) (by (first | decide +kernel | (unfold isGlob; decide +kernel))) rfl (by (first | decide +kernel | (unfold isGlob; decide +kernel))) ?_)
    | ((with_reducible show SimS _ _ (.asg _ _) _); refine SimS.asg (by (first | decide +kernel | (unfold isGlob; decide +kernel))) (by decide) (by first | exact .inl ⟨by (first | decide +kernel | (unfold isGlob; decide +kernel)), rfl⟩ | exact .inr (by (first | decide +kernel | (unfold isGlob; decide +kernel)))) ?_)
    | ((with_reducible show SimS _ _ .acc _); exact SimS.acc (by (first | decide +kernel | (unfold isGlob; decide +kernel))) (by (first | decide +kernel | (unfold isGlob; decide +kernel))))
    | ((with_reducible show SimS _ _ (.app _) _); refine SimS.app (by (first | decide +kernel | (unfold isGlob; decide +kernel))) (by (first | decide +kernel | (unfold isGlob; decide +kernel))) ?_ rfl (fun env => ⟨_, rfl⟩))
    | ((with_reducible show SimS _ _ (.ins _) _); refine SimS.ins (by (first | decide +kernel | (unfold isGlob; decide +kernel))) (by (first | decide +kernel | (unfold isGlob; decide +kernel))) (by (first | decide +kernel | (unfold isGlob; decide +kernel))) ?_ rfl)
    | ((with_reducible show SimS _ _ (.mov _) _); exact SimS.mov (by (first | decide +kernel | (unfold isGlob; decide +kernel))) (by decide) (by (first | decide +kernel | (unfold isGlob; decide +kernel))) (by (first | decide +kernel | (unfold isGlob; decide +kernel))) (by (first | decide +kernel | (unfold isGlob; decide +kernel))))
    | ((with_reducible show SimS _ _ (.ifs _ _ _) _); refine SimS.ifs ?_ ?_ ?_)
    | ((with_reducible show SimS _ _ (.for1 _ _ _) _); refine SimS.for1 (by (first | decide +kernel | (unfold isGlob; decide +kernel))) (by decide) (by first | exact .inl (by (first | decide +kernel | (unfold isGlob; decide +kernel))) | exact .inr (by (first | decide +kernel | (unfold isGlob; decide +kernel)))) ?_ ?_ (fun _ _ => rfl))
    | ((with_reducible show SimS _ _ (.for2 _ _ _ _) _); refine SimS.for2 (by (first | decide +kernel | (unfold isGlob; decide +kernel))) (by (first | decide +kernel | (unfold isGlob; decide +kernel))) (by decide) (by decide) (by decide) (by (first | decide +kernel | (unfold isGlob; decide +kernel))) (by (first | decide +kernel | (unfold isGlob; decide +kernel))) ?_ ?_ (fun _ _ => rfl))
    | ((with_reducible show SimS _ _ (.ret _) _); refine SimS.ret ?_)
    | ((with_reducible show SimS _ _ .retAcc _); exact SimS.retAcc (by (first | decide +kernel | (unfold isGlob; decide +kernel))) (by (first | decide +kernel | (unfold isGlob; decide +kernel))))
    | ((with_reducible show SimEs _ _ [] _); exact SimEs.nil)
    | ((with_reducible show SimEs _ _ (_ :: _) _); refine SimEs.cons ?_ rfl ?_)
    | ((with_reducible show SimO _ _ none _); exact SimO.none)
    | ((with_reducible show SimO _ _ (some _) _); refine SimO.some ?_)
    | ((with_reducible show SimI _ _ (.range _) _); refine SimI.range (by (first | decide +kernel | (unfold isGlob; decide +kernel))) ?_ rfl)
    | ((with_reducible show SimI _ _ (.seq _) _); refine SimI.seq ?_)
    | ((with_reducible show SimT _ _ (.cmp _ _ _) _); refine SimT.cmp ?_ ?_ rfl)
    | ((with_reducible show SimT _ _ (.and _ _) _); refine SimT.and ?_ ?_)
    | ((with_reducible show SimT _ _ (.isIn _ _ _) _); refine SimT.isIn ?_)
    | ((with_reducible show SimE _ _ .fls _); exact SimE.fls)
    | ((with_reducible show SimE _ _ (.int _) _); exact SimE.int)
    | ((with_reducible show SimE _ _ (.str _) _); exact SimE.str)
    | ((with_reducible show SimE _ _ (.neg _) _); refine SimE.neg ?_)
    | ((with_reducible show SimE _ _ (.var _) _); exact SimE.var (by (first | decide +kernel | (unfold isGlob; decide +kernel))) (by (first | decide +kernel | (unfold isGlob; decide +kernel))) (by (first | decide +kernel | (unfold isGlob; decide +kernel))))
    | ((with_reducible show SimE _ _ (.bin _ _ _) _); refine SimE.bin ?_ ?_)
    | ((with_reducible show SimE _ _ (.ife _ _ _) _); refine SimE.ife ?_ ?_ ?_)
    | ((with_reducible show SimE _ _ (.cmp _ _ _) _); refine SimE.cmp ?_ ?_ rfl)
    | ((with_reducible show SimE _ _ (.idx _ _) _); refine SimE.idx ?_ ?_ rfl)
    | ((with_reducible show SimE _ _ (.slcT _ _) _); refine SimE.slcT ?_ ?_ (fun _ _ => rfl))
    | ((with_reducible show SimE _ _ (.slc _ _ _) _); refine SimE.slc ?_ ?_ ?_ (fun _ _ => rfl))
    | ((with_reducible show SimE _ _ (.list _) _); refine SimE.list ?_)
    | ((with_reducible show SimE _ _ (.tup _) _); refine SimE.tup ?_)
    | ((with_reducible show SimE _ _ (.rep _ _) _); refine SimE.rep ?_ ?_ rfl)
    | ((with_reducible show SimE _ _ (.comp _ _ _ _ _) _); refine SimE.comp ?_ (by (exact ⟨rfl, by decide +kernel, by decide +kernel, by decide +kernel, by decide +kernel, by decide +kernel⟩)) (by (first | decide +kernel | (unfold isGlob; decide +kernel))) ?_ ?_ (fun _ _ => rfl))
    | ((with_reducible show SimE _ _ (.comp2 _ _ _ _ _ _) _); refine SimE.comp2 ?_ (by (exact ⟨rfl, by decide +kernel, by decide +kernel, by decide +kernel, by decide +kernel, by decide +kernel⟩)) (by (first | decide +kernel | (unfold isGlob; decide +kernel))) (by (first | decide +kernel | (unfold isGlob; decide +kernel))) (by decide) ?_ ?_ (fun _ _ => rfl) (fun _ _ => rfl))
    | ((with_reducible show SimE _ _ (.call _ _) _); refine SimE.call (by decide) (by (first | decide +kernel | (unfold isGlob; decide +kernel))) (by (first | decide +kernel | (unfold isGlob; decide +kernel))) (by (first | decide +kernel | (unfold isGlob; decide +kernel))) ?_)
    | ((with_reducible show SimE _ _ (.len _) _); refine SimE.len (by (first | decide +kernel | (unfold isGlob; decide +kernel))) ?_ rfl)
    | ((with_reducible show SimE _ _ (.sum _) _); refine SimE.sum (by (first | decide +kernel | (unfold isGlob; decide +kernel))) ?_ rfl)
    | ((with_reducible show SimE _ _ (.max _ _) _); refine SimE.max (by (first | decide +kernel | (unfold isGlob; decide +kernel))) ?_ ?_ rfl rfl)
    | ((with_reducible show SimE _ _ (.sorted _) _); refine SimE.sorted (by (first | decide +kernel | (unfold isGlob; decide +kernel))) ?_ rfl)
    | ((with_reducible show SimE _ _ (.encode _) _); refine SimE.encode ?_ (fun env => ⟨_, rfl⟩))
    | ((with_reducible show SimE _ _ (.split _) _); refine SimE.split ?_ (fun env => ⟨_, rfl⟩))
    | ((with_reducible show SimE _ _ .accLen _); exact SimE.accLen (by (first | decide +kernel | (unfold isGlob; decide +kernel))) (by (first | decide +kernel | (unfold isGlob; decide +kernel))) (by (first | decide +kernel | (unfold isGlob; decide +kernel))))
    | ((with_reducible show SimE _ _ (.accL _) _); refine SimE.accL (by (first | decide +kernel | (unfold isGlob; decide +kernel))) (by (first | decide +kernel | (unfold isGlob; decide +kernel))) (by (first | decide +kernel | (unfold isGlob; decide +kernel))) ?_ rfl)
    | ((with_reducible show SimE _ _ (.accR _) _); refine SimE.accR (by (first | decide +kernel | (unfold isGlob; decide +kernel))) (by (first | decide +kernel | (unfold isGlob; decide +kernel))) (by (first | decide +kernel | (unfold isGlob; decide +kernel))) ?_ rfl)
    | ((with_reducible show SimE _ _ (.accAdd _) _); refine SimE.accAdd (by (first | decide +kernel | (unfold isGlob; decide +kernel))) (by (first | decide +kernel | (unfold isGlob; decide +kernel))) ?_))
theorem d6 (p : Params) : DefOK (FK p) 6 ⟨[18], pairsB⟩ := by
  refine ⟨⟨_, _, 99, _, _, _, _, _, rfl, rfl, rfl, rfl, rfl, rfl, rfl, bind1_all (fun v => rfl), rfl, rfl, rfl, rfl, rfl, rfl, ps1 (by first | exact .inl (by decide +kernel) | exact .inr (by decide +kernel)), by decide, by decide, ?_⟩⟩
  show SimSs 99 _ pairsB _
  unfold pairsB
  repeat (first
    | ((with_reducible show SimSs _ _ [] _); exact SimSs.nil)
    | ((with_reducible show SimSs _ _ (_ :: _) _); refine SimSs.cons ?_ ?_)
    | ((with_reducible show SimS _ _ (.asg _ (.comp _ _ _ _ _)) _); refine SimS.asgC (by (first | decide +kernel | (unfold isGlob; decide +kernel))) (by decide) (by (first | decide +kernel | (unfold isGlob; decide +kernel))) rfl (by (first | decide +kernel | (unfold isGlob; decide +kernel))) ?_)
    | ((with_reducible show SimS _ _ (.asg _ _) _); refine SimS.asg (by (first | decide +kernel | (unfold isGlob; decide +kernel))) (by decide) (by first | exact .inl ⟨by (first | decide +kernel | (unfold isGlob; decide +kernel)), rfl⟩ | exact .inr (by (first | decide +kernel | (unfold isGlob; decide +kernel)))) ?_)
    | ((with_reducible show SimS _ _ .acc _); exact SimS.acc (by (first | decide +kernel | (unfold isGlob; decide +kernel))) (by (first | decide +kernel | (unfold isGlob; decide +kernel))))
    | ((with_reducible show SimS _ _ (.app _) _); refine SimS.app (by (first | decide +kernel | (unfold isGlob; decide +kernel))) (by (first | decide +kernel | (unfold isGlob; decide +kernel))) ?_ rfl (fun env => ⟨_, rfl⟩))
    | ((with_reducible show SimS _ _ (.ins _) _); refine SimS.ins (by (first | decide +kernel | (unfold isGlob; decide +kernel))) (by (first | decide +kernel | (unfold isGlob; decide +kernel))) (by (first | decide +kernel | (unfold isGlob; decide +kernel))) ?_ rfl)
    | ((with_reducible show SimS _ _ (.mov _) _); exact SimS.mov (by (first | decide +kernel | (unfold isGlob; decide +kernel))) (by decide) (by (first | decide +kernel | (unfold isGlob; decide +kernel))) (by (first | decide +kernel | (unfold isGlob; decide +kernel))) (by (first | decide +kernel | (unfold isGlob; decide +kernel))))
    | ((with_reducible show SimS _ _ (.ifs _ _ _) _); refine SimS.ifs ?_ ?_ ?_)
    | ((with_reducible show SimS _ _ (.for1 _ _ _) _); refine SimS.for1 (by (first | decide +kernel | (unfold isGlob; decide +kernel))) (by decide) (by first | exact .inl (by (first | decide +kernel | (unfold isGlob; decide +kernel))) | exact .inr (by (first | decide +kernel | (unfold isGlob; decide +kernel)))) ?_ ?_ (fun _ _ => rfl))
    | ((with_reducible show SimS _ _ (.for2 _ _ _ _) _); refine SimS.for2 (by (first | decide +kernel | (unfold isGlob; decide +kernel))) (by (first | decide +kernel | (unfold isGlob; decide +kernel))) (by decide) (by decide) (by decide) (by (first | decide +kernel | (unfold isGlob; decide +kernel))) (by (first | decide +kernel | (unfold isGlob; decide +kernel))) ?_ ?_ (fun _ _ => rfl))
    | ((with_reducible show SimS _ _ (.ret _) _); refine SimS.ret ?_)
    | ((with_reducible show SimS _ _ .retAcc _); exact SimS.retAcc (by (first | decide +kernel | (unfold isGlob; decide +kernel))) (by (first | decide +kernel | (unfold isGlob; decide +kernel))))
    | ((with_reducible show SimEs _ _ [] _); exact SimEs.nil)
    | ((with_reducible show SimEs _ _ (_ :: _) _); refine SimEs.cons ?_ rfl ?_)
    | ((with_reducible show SimO _ _ none _); exact SimO.none)
    | ((with_reducible show SimO _ _ (some _) _); refine SimO.some ?_)
    | ((with_reducible show SimI _ _ (.range _) _); refine SimI.range (by (first | decide +kernel | (unfold isGlob; decide +kernel))) ?_ rfl)
    | ((with_reducible show SimI _ _ (.seq _) _); refine SimI.seq ?_)
    | ((with_reducible show SimT _ _ (.cmp _ _ _) _); refine SimT.cmp ?_ ?_ rfl)
    | ((with_reducible show SimT _ _ (.and _ _) _); refine SimT.and ?_ ?_)
    | ((with_reducible show SimT _ _ (.isIn _ _ _) _); refine SimT.isIn ?_)
    | ((with_reducible show SimE _ _ .fls _); exact SimE.fls)
    | ((with_reducible show SimE _ _ (.int _) _); exact SimE.int)
    | ((with_reducible show SimE _ _ (.str _) _); exact SimE.str)
    | ((with_reducible show SimE _ _ (.neg _) _); refine SimE.neg ?_)
    | ((with_reducible show SimE _ _ (.var _) _); exact SimE.var (by (first | decide +kernel | (unfold isGlob; decide +kernel))) (by (first | decide +kernel | (unfold isGlob; decide +kernel))) (by (first | decide +kernel | (unfold isGlob; decide +kernel))))
    | ((with_reducible show SimE _ _ (.bin _ _ _) _); refine SimE.bin ?_ ?_)
    | ((with_reducible show SimE _ _ (.ife _ _ _) _); refine SimE.ife ?_ ?_ ?_)
    | ((with_reducible show SimE _ _ (.cmp _ _ _) _); refine SimE.cmp ?_ ?_ rfl)
    | ((with_reducible show SimE _ _ (.idx _ _) _); refine SimE.idx ?_ ?_ rfl)
    | ((with_reducible show SimE _ _ (.slcT _ _) _); refine SimE.slcT ?_ ?_ (fun _ _ => rfl))
    | ((with_reducible show SimE _ _ (.slc _ _ _) _); refine SimE.slc ?_ ?_ ?_ (fun _ _ => rfl))
    | ((with_reducible show SimE _ _ (.list _) _); refine SimE.list ?_)
    | ((with_reducible show SimE _ _ (.tup _) _); refine SimE.tup ?_)
    | ((with_reducible show SimE _ _ (.rep _ _) _); refine SimE.rep ?_ ?_ rfl)
    | ((with_reducible show SimE _ _ (.comp _ _ _ _ _) _); refine SimE.comp ?_ (by (exact ⟨rfl, by decide +kernel, by decide +kernel, by decide +kernel, by decide +kernel, by decide +kernel⟩)) (by (first | decide +kernel | (unfold isGlob; decide +kernel))) ?_ ?_ (fun _ _ => rfl))
    | ((with_reducible show SimE _ _ (.comp2 _ _ _ _ _ _) _); refine SimE.comp2 ?_ (by (exact ⟨rfl, by decide +kernel, by decide +kernel, by decide +kernel, by decide +kernel, by decide +kernel⟩)) (by (first | decide +kernel | (unfold isGlob; decide +kernel))) (by (first | decide +kernel | (unfold isGlob; decide +kernel))) (by decide) ?_ ?_ (fun _ _ => rfl) (fun _ _ => rfl))
    | ((with_reducible show SimE _ _ (.call _ _) _); refine SimE.call (by decide) (by (first | decide +kernel | (unfold isGlob; decide +kernel))) (by (first | decide +kernel | (unfold isGlob; decide +kernel))) (by (first | decide +kernel | (unfold isGlob; decide +kernel))) ?_)
    | ((with_reducible show SimE _ _ (.len _) _); refine SimE.len (by (first | decide +kernel | (unfold isGlob; decide +kernel))) ?_ rfl)
    | ((with_reducible show SimE _ _ (.sum _) _); refine SimE.sum (by (first | decide +kernel | (unfold isGlob; decide +kernel))) ?_ rfl)
    | ((with_reducible show SimE _ _ (.max _ _) _); refine SimE.max (by (first | decide +kernel | (unfold isGlob; decide +kernel))) ?_ ?_ rfl rfl)
    | ((with_reducible show SimE _ _ (.sorted _) _); refine SimE.sorted (by (first | decide +kernel | (unfold isGlob; decide +kernel))) ?_ rfl)
    | ((with_reducible show SimE _ _ (.encode _) _); refine SimE.encode ?_ (fun env => ⟨_, rfl⟩))
    | ((with_reducible show SimE _ _ (.split _) _); refine SimE.split ?_ (fun env => ⟨_, rfl⟩))
    | ((with_reducible show SimE _ _ .accLen _); exact SimE.accLen (by (first | decide +kernel | (unfold isGlob; decide +kernel))) (by (first | decide +kernel | (unfold isGlob; decide +kernel))) (by (first | decide +kernel | (unfold isGlob; decide +kernel))))
    | ((with_reducible show SimE _ _ (.accL _) _); refine SimE.accL (by (first | decide +kernel | (unfold isGlob; decide +kernel))) (by (first | decide +kernel | (unfold isGlob; decide +kernel))) (by (first | decide +kernel | (unfold isGlob; decide +kernel))) ?_ rfl)
    | ((with_reducible show SimE _ _ (.accR _) _); refine SimE.accR (by (first | decide +kernel | (unfold isGlob; decide +kernel))) (by (first | decide +kernel | (unfold isGlob; decide +kernel))) (by (first | decide +kernel | (unfold isGlob; decide +kernel))) ?_ rfl)
    | ((with_reducible show SimE _ _ (.accAdd _) _); refine SimE.accAdd (by (first | decide +kernel | (unfold isGlob; decide +kernel))) (by (first | decide +kernel | (unfold isGlob; decide +kernel))) ?_))
theorem d7 (p : Params) : DefOK (FK p) 7 ⟨[32], spreadB⟩ := by
  refine ⟨⟨_, _, 99, _, _, _, _, _, rfl, rfl, rfl, rfl, rfl, rfl, rfl, bind1_all (fun v => rfl), rfl, rfl, rfl, rfl, rfl, rfl, ps1 (by first | exact .inl (by decide +kernel) | exact .inr (by decide +kernel)), by decide, by decide, ?_⟩⟩
  show SimSs 99 _ spreadB _
  unfold spreadB
  repeat (first
    | ((with_reducible show SimSs _ _ [] _); exact SimSs.nil)
    | ((with_reducible show SimSs _ _ (_ :: _) _); refine SimSs.cons ?_ ?_)
    | ((with_reducible show SimS _ _ (.asg _ (.comp _ _ _ _ _)) _); refine SimS.asgC (by (first | decide +kernel | (unfold isGlob; decide +kernel))) (by decide) (by (first | decide +kernel | (unfold isGlob; decide +kernel))) rfl (by (first | decide +kernel | (unfold isGlob; decide +kernel))) ?_)
    | ((with_reducible show SimS _ _ (.asg _ _) _); refine SimS.asg (by (first | decide +kernel | (unfold isGlob; decide +kernel))) (by decide) (by first | exact .inl ⟨by (first | decide +kernel | (unfold isGlob; decide +kernel)), rfl⟩ | exact .inr (by (first | decide +kernel | (unfold isGlob; decide +kernel)))) ?_)
    | ((with_reducible show SimS _ _ .acc _); exact SimS.acc (by (first | decide +kernel | (unfold isGlob; decide +kernel))) (by (first | decide +kernel | (unfold isGlob; decide +kernel))))
    | ((with_reducible show SimS _ _ (.app _) _); refine SimS.app (by (first | decide +kernel | (unfold isGlob; decide +kernel))) (by (first | decide +kernel | (unfold isGlob; decide +kernel))) ?_ rfl (fun env => ⟨_, rfl⟩))
    | ((with_reducible show SimS _ _ (.ins _) _); refine SimS.ins (by (first | decide +kernel | (unfold isGlob; decide +kernel))) (by (first | decide +kernel | (unfold isGlob; decide +kernel))) (by (first | decide +kernel | (unfold isGlob; decide +kernel))) ?_ rfl)
    | ((with_reducible show SimS _ _ (.mov _) _); exact SimS.mov (by (first | decide +kernel | (unfold isGlob; decide +kernel))) (by decide) (by (first | decide +kernel | (unfold isGlob; decide +kernel))) (by (first | decide +kernel | (unfold isGlob; decide +kernel))) (by (first | decide +kernel | (unfold isGlob; decide +kernel))))
    | ((with_reducible show SimS _ _ (.ifs _ _ _) _); refine SimS.ifs ?_ ?_ ?_)
    | ((with_reducible show SimS _ _ (.for1 _ _ _) _); refine SimS.for1 (by (first | decide +kernel | (unfold isGlob; decide +kernel))) (by decide) (by first | exact .inl (by (first | decide +kernel | (unfold isGlob; decide +kernel))) | exact .inr (by (first | decide +kernel | (unfold isGlob; decide +kernel)))) ?_ ?_ (fun _ _ => rfl))
    | ((with_reducible show SimS _ _ (.for2 _ _ _ _) _); refine SimS.for2 (by (first | decide +kernel | (unfold isGlob; decide +kernel))) (by (first | decide +kernel | (unfold isGlob; decide +kernel))) (by decide) (by decide) (by decide) (by (first | decide +kernel | (unfold isGlob; decide +kernel))) (by (first | decide +kernel | (unfold isGlob; decide +kernel))) ?_ ?_ (fun _ _ => rfl))
    | ((with_reducible show SimS _ _ (.ret _) _); refine SimS.ret ?_)
    | ((with_reducible show SimS _ _ .retAcc _); exact SimS.retAcc (by (first | decide +kernel | (unfold isGlob; decide +kernel))) (by (first | decide +kernel | (unfold isGlob; decide +kernel))))
    | ((with_reducible show SimEs _ _ [] _); exact SimEs.nil)
    | ((with_reducible show SimEs _ _ (_ :: _) _); refine SimEs.cons ?_ rfl ?_)
    | ((with_reducible show SimO _ _ none _); exact SimO.none)
    | ((with_reducible show SimO _ _ (some _) _); refine SimO.some ?_)
    | ((with_reducible show SimI _ _ (.range _) _); refine SimI.range (by (first | decide +kernel | (unfold isGlob; decide +kernel))) ?_ rfl)
    | ((with_reducible show SimI _ _ (.seq _) _); refine SimI.seq ?_)
    | ((with_reducible show SimT _ _ (.cmp _ _ _) _); refine SimT.cmp ?_ ?_ rfl)
    | ((with_reducible show SimT _ _ (.and _ _) _); refine SimT.and ?_ ?_)
    | ((with_reducible show SimT _ _ (.isIn _ _ _) _); refine SimT.isIn ?_)
    | ((with_reducible show SimE _ _ .fls _); exact SimE.fls)
    | ((with_reducible show SimE _ _ (.int _) _); exact SimE.int)
    | ((with_reducible show SimE _ _ (.str _) _); exact SimE.str)
    | ((with_reducible show SimE _ _ (.neg _) _); refine SimE.neg ?_)
    | ((with_reducible show SimE _ _ (.var _) _); exact SimE.var (by (first | decide +kernel | (unfold isGlob; decide +kernel))) (by (first | decide +kernel | (unfold isGlob; decide +kernel))) (by (first | decide +kernel | (unfold isGlob; decide +kernel))))
    | ((with_reducible show SimE _ _ (.bin _ _ _) _); refine SimE.bin ?_ ?_)
    | ((with_reducible show SimE _ _ (.ife _ _ _) _); refine SimE.ife ?_ ?_ ?_)
    | ((with_reducible show SimE _ _ (.cmp _ _ _) _); refine SimE.cmp ?_ ?_ rfl)
    | ((with_reducible show SimE _ _ (.idx _ _) _); refine SimE.idx ?_ ?_ rfl)
    | ((with_reducible show SimE _ _ (.slcT _ _) _); refine SimE.slcT ?_ ?_ (fun _ _ => rfl))
    | ((with_reducible show SimE _ _ (.slc _ _ _) _); refine SimE.slc ?_ ?_ ?_ (fun _ _ => rfl))
    | ((with_reducible show SimE _ _ (.list _) _); refine SimE.list ?_)
    | ((with_reducible show SimE _ _ (.tup _) _); refine SimE.tup ?_)
    | ((with_reducible show SimE _ _ (.rep _ _) _); refine SimE.rep ?_ ?_ rfl)
    | ((with_reducible show SimE _ _ (.comp _ _ _ _ _) _); refine SimE.comp ?_ (by (exact ⟨rfl, by decide +kernel, by decide +kernel, by decide +kernel, by decide +kernel, by decide +kernel⟩)) (by (first | decide +kernel | (unfold isGlob; decide +kernel))) ?_ ?_ (fun _ _ => rfl))
    | ((with_reducible show SimE _ _ (.comp2 _ _ _ _ _ _) _); refine SimE.comp2 ?_ (by (exact ⟨rfl, by decide +kernel, by decide +kernel, by decide +kernel, by decide +kernel, by decide +kernel⟩)) (by (first | decide +kernel | (unfold isGlob; decide +kernel))) (by (first | decide +kernel | (unfold isGlob; decide +kernel))) (by decide) ?_ ?_ (fun _ _ => rfl) (fun _ _ => rfl))
    | ((with_reducible show SimE _ _ (.call _ _) _); refine SimE.call (by decide) (by (first | decide +kernel | (unfold isGlob; decide +kernel))) (by (first | decide +kernel | (unfold isGlob; decide +kernel))) (by (first | decide +kernel | (unfold isGlob; decide +kernel))) ?_)
    | ((with_reducible show SimE _ _ (.len _) _); refine SimE.len (by (first | decide +kernel | (unfold isGlob; decide +kernel))) ?_ rfl)
    | ((with_reducible show SimE _ _ (.sum _) _); refine SimE.sum (by (first | decide +kernel | (unfold isGlob; decide +kernel))) ?_ rfl)
    | ((with_reducible show SimE _ _ (.max _ _) _); refine SimE.max (by (first | decide +kernel | (unfold isGlob; decide +kernel))) ?_ ?_ rfl rfl)
    | ((with_reducible show SimE _ _ (.sorted _) _); refine SimE.sorted (by (first | decide +kernel | (unfold isGlob; decide +kernel))) ?_ rfl)
    | ((with_reducible show SimE _ _ (.encode _) _); refine SimE.encode ?_ (fun env => ⟨_, rfl⟩))
    | ((with_reducible show SimE _ _ (.split _) _); refine SimE.split ?_ (fun env => ⟨_, rfl⟩))
    | ((with_reducible show SimE _ _ .accLen _); exact SimE.accLen (by (first | decide +kernel | (unfold isGlob; decide +kernel))) (by (first | decide +kernel | (unfold isGlob; decide +kernel))) (by (first | decide +kernel | (unfold isGlob; decide +kernel))))
    | ((with_reducible show SimE _ _ (.accL _) _); refine SimE.accL (by (first | decide +kernel | (unfold isGlob; decide +kernel))) (by (first | decide +kernel | (unfold isGlob; decide +kernel))) (by (first | decide +kernel | (unfold isGlob; decide +kernel))) ?_ rfl)
    | ((with_reducible show SimE _ _ (.accR _) _); refine SimE.accR (by (first | decide +kernel | (unfold isGlob; decide +kernel))) (by (first | decide +kernel | (unfold isGlob; decide +kernel))) (by (first | decide +kernel | (unfold isGlob; decide +kernel))) ?_ rfl)
    | ((with_reducible show SimE _ _ (.accAdd _) _); refine SimE.accAdd (by (first | decide +kernel | (unfold isGlob; decide +kernel))) (by (first | decide +kernel | (unfold isGlob; decide +kernel))) ?_))
theorem d14 (p : Params) : DefOK (FK p) 14 ⟨[0], lawB⟩ := by
  refine ⟨⟨_, _, 99, _, _, _, _, _, rfl, rfl, rfl, rfl, rfl, rfl, rfl, bind1_all (fun v => rfl), rfl, rfl, rfl, rfl, rfl, rfl, ps1 (by first | exact .inl (by decide +kernel) | exact .inr (by decide +kernel)), by decide, by decide, ?_⟩⟩
  show SimSs 99 _ lawB _
  unfold lawB
  repeat (first
    | ((with_reducible show SimSs _ _ [] _); exact SimSs.nil)
    | ((with_reducible show SimSs _ _ (_ :: _) _); refine SimSs.cons ?_ ?_)
    | ((with_reducible show SimS _ _ (.asg _ (.comp _ _ _ _ _)) _); refine SimS.asgC (by (first | decide +kernel | (unfold isGlob; decide +kernel))) (by decide) (by (first | decide +kernel | (unfold isGlob; decide +kernel))) rfl (by (first | decide +kernel | (unfold isGlob; decide +kernel))) ?_)
    | ((with_reducible show SimS _ _ (.asg _ _) _); refine SimS.asg (by (first | decide +kernel | (unfold isGlob; decide +kernel))) (by decide) (by first | exact .inl ⟨by (first | decide +kernel | (unfold isGlob; decide +kernel)), rfl⟩ | exact .inr (by (first | decide +kernel | (unfold isGlob; decide +kernel)))) ?_)
    | ((with_reducible show SimS _ _ .acc _); exact SimS.acc (by (first | decide +kernel | (unfold isGlob; decide +kernel))) (by (first | decide +kernel | (unfold isGlob; decide +kernel))))
    | ((with_reducible show SimS _ _ (.app _) _); refine SimS.app (by (first | decide +kernel | (unfold isGlob; decide +kernel))) (by (first | decide +kernel | (unfold isGlob; decide +kernel))) ?_ rfl (fun env => ⟨_, rfl⟩))
    | ((with_reducible show SimS _ _ (.ins _) _); refine SimS.ins (by (first | decide +kernel | (unfold isGlob; decide +kernel))) (by (first | decide +kernel | (unfold isGlob; decide +kernel))) (by (first | decide +kernel | (unfold isGlob; decide +kernel))) ?_ rfl)
    | ((with_reducible show SimS _ _ (.mov _) _); exact SimS.mov (by (first | decide +kernel | (unfold isGlob; decide +kernel))) (by decide) (by (first | decide +kernel | (unfold isGlob; decide +kernel))) (by (first | decide +kernel | (unfold isGlob; decide +kernel))) (by (first | decide +kernel | (unfold isGlob; decide +kernel))))
    | ((with_reducible show SimS _ _ (.ifs _ _ _) _); refine SimS.ifs ?_ ?_ ?_)
    | ((with_reducible show SimS _ _ (.for1 _ _ _) _); refine SimS.for1 (by (first | decide +kernel | (unfold isGlob; decide +kernel))) (by decide) (by first | exact .inl (by (first | decide +kernel | (unfold isGlob; decide +kernel))) | exact .inr (by (first | decide +kernel | (unfold isGlob; decide +kernel)))) ?_ ?_ (fun _ _ => rfl))
    | ((with_reducible show SimS _ _ (.for2 _ _ _ _) _); refine SimS.for2 (by (first | decide +kernel | (unfold isGlob; decide +kernel))) (by (first | decide +kernel | (unfold isGlob; decide +kernel))) (by decide) (by decide) (by decide) (by (first | decide +kernel | (unfold isGlob; decide +kernel))) (by (first | decide +kernel | (unfold isGlob; decide +kernel))) ?_ ?_ (fun _ _ => rfl))
    | ((with_reducible show SimS _ _ (.ret _) _); refine SimS.ret ?_)
    | ((with_reducible show SimS _ _ .retAcc _); exact SimS.retAcc (by (first | decide +kernel | (unfold isGlob; decide +kernel))) (by (first | decide +kernel | (unfold isGlob; decide +kernel))))
    | ((with_reducible show SimEs _ _ [] _); exact SimEs.nil)
    | ((with_reducible show SimEs _ _ (_ :: _) _); refine SimEs.cons ?_ rfl ?_)
    | ((with_reducible show SimO _ _ none _); exact SimO.none)
    | ((with_reducible show SimO _ _ (some _) _); refine SimO.some ?_)
    | ((with_reducible show SimI _ _ (.range _) _); refine SimI.range (by (first | decide +kernel | (unfold isGlob; decide +kernel))) ?_ rfl)
    | ((with_reducible show SimI _ _ (.seq _) _); refine SimI.seq ?_)
    | ((with_reducible show SimT _ _ (.cmp _ _ _) _); refine SimT.cmp ?_ ?_ rfl)
    | ((with_reducible show SimT _ _ (.and _ _) _); refine SimT.and ?_ ?_)
    | ((with_reducible show SimT _ _ (.isIn _ _ _) _); refine SimT.isIn ?_)
    | ((with_reducible show SimE _ _ .fls _); exact SimE.fls)
    | ((with_reducible show SimE _ _ (.int _) _); exact SimE.int)
    | ((with_reducible show SimE _ _ (.str _) _); exact SimE.str)
    | ((with_reducible show SimE _ _ (.neg _) _); refine SimE.neg ?_)
    | ((with_reducible show SimE _ _ (.var _) _); exact SimE.var (by (first | decide +kernel | (unfold isGlob; decide +kernel))) (by (first | decide +kernel | (unfold isGlob; decide +kernel))) (by (first | decide +kernel | (unfold isGlob; decide +kernel))))
    | ((with_reducible show SimE _ _ (.bin _ _ _) _); refine SimE.bin ?_ ?_)
    | ((with_reducible show SimE _ _ (.ife _ _ _) _); refine SimE.ife ?_ ?_ ?_)
    | ((with_reducible show SimE _ _ (.cmp _ _ _) _); refine SimE.cmp ?_ ?_ rfl)
    | ((with_reducible show SimE _ _ (.idx _ _) _); refine SimE.idx ?_ ?_ rfl)
    | ((with_reducible show SimE _ _ (.slcT _ _) _); refine SimE.slcT ?_ ?_ (fun _ _ => rfl))
    | ((with_reducible show SimE _ _ (.slc _ _ _) _); refine SimE.slc ?_ ?_ ?_ (fun _ _ => rfl))
    | ((with_reducible show SimE _ _ (.list _) _); refine SimE.list ?_)
    | ((with_reducible show SimE _ _ (.tup _) _); refine SimE.tup ?_)
    | ((with_reducible show SimE _ _ (.rep _ _) _); refine SimE.rep ?_ ?_ rfl)
    | ((with_reducible show SimE _ _ (.comp _ _ _ _ _) _); refine SimE.comp ?_ (by (exact ⟨rfl, by decide +kernel, by decide +kernel, by decide +kernel, by decide +kernel, by decide +kernel⟩)) (by (first | decide +kernel | (unfold isGlob; decide +kernel))) ?_ ?_ (fun _ _ => rfl))
    | ((with_reducible show SimE _ _ (.comp2 _ _ _ _ _ _) _); refine SimE.comp2 ?_ (by (exact ⟨rfl, by decide +kernel, by decide +kernel, by decide +kernel, by decide +kernel, by decide +kernel⟩)) (by (first | decide +kernel | (unfold isGlob; decide +kernel))) (by (first | decide +kernel | (unfold isGlob; decide +kernel))) (by decide) ?_ ?_ (fun _ _ => rfl) (fun _ _ => rfl))
    | ((with_reducible show SimE _ _ (.call _ _) _); refine SimE.call (by decide) (by (first | decide +kernel | (unfold isGlob; decide +kernel))) (by (first | decide +kernel | (unfold isGlob; decide +kernel))) (by (first | decide +kernel | (unfold isGlob; decide +kernel))) ?_)
    | ((with_reducible show SimE _ _ (.len _) _); refine SimE.len (by (first | decide +kernel | (unfold isGlob; decide +kernel))) ?_ rfl)
    | ((with_reducible show SimE _ _ (.sum _) _); refine SimE.sum (by (first | decide +kernel | (unfold isGlob; decide +kernel))) ?_ rfl)
    | ((with_reducible show SimE _ _ (.max _ _) _); refine SimE.max (by (first | decide +kernel | (unfold isGlob; decide +kernel))) ?_ ?_ rfl rfl)
    | ((with_reducible show SimE _ _ (.sorted _) _); refine SimE.sorted (by (first | decide +kernel | (unfold isGlob; decide +kernel))) ?_ rfl)
    | ((with_reducible show SimE _ _ (.encode _) _); refine SimE.encode ?_ (fun env => ⟨_, rfl⟩))
    | ((with_reducible show SimE _ _ (.split _) _); refine SimE.split ?_ (fun env => ⟨_, rfl⟩))
    | ((with_reducible show SimE _ _ .accLen _); exact SimE.accLen (by (first | decide +kernel | (unfold isGlob; decide +kernel))) (by (first | decide +kernel | (unfold isGlob; decide +kernel))) (by (first | decide +kernel | (unfold isGlob; decide +kernel))))
    | ((with_reducible show SimE _ _ (.accL _) _); refine SimE.accL (by (first | decide +kernel | (unfold isGlob; decide +kernel))) (by (first | decide +kernel | (unfold isGlob; decide +kernel))) (by (first | decide +kernel | (unfold isGlob; decide +kernel))) ?_ rfl)
    | ((with_reducible show SimE _ _ (.accR _) _); refine SimE.accR (by (first | decide +kernel | (unfold isGlob; decide +kernel))) (by (first | decide +kernel | (unfold isGlob; decide +kernel))) (by (first | decide +kernel | (unfold isGlob; decide +kernel))) ?_ rfl)
    | ((with_reducible show SimE _ _ (.accAdd _) _); refine SimE.accAdd (by (first | decide +kernel | (unfold isGlob; decide +kernel))) (by (first | decide +kernel | (unfold isGlob; decide +kernel))) ?_))
end Mine
open PySem PySem.W PyProof.Rows PySem.Calls
set_option maxRecDepth 100000
set_option maxHeartbeats 8000000
set_option linter.unusedVariables false
namespace Mine

theorem mg_none {K : Frag} {h : Heap} {mg : Str → Option Value} {n : Str} (X : K.In h) (G : h.Ns mainGlobals mg) (e : nsIn K mainGlobals n = some none) : mg n = none := by
  obtain ⟨o, es, ep, ho, hd, _, hf⟩ := G
  unfold nsIn at e
  split at e
  · rename_i c d es' n' sl q
    have := X _ _ q
    rw [ho] at this
    cases this
    cases hd
    split at e
    · cases e
    · rename_i he
      rw [← hf]
      unfold nsFind findBy
      rw [← Array.find?_toList, he]
      rfl
  · cases e

theorem bindOK_of {p : Params} {prog : Program} {w : World} {fd : FuncData} {args : List Value} {binds : List (Str × Value)} (hp : p = w.params) (h : peek (hd.heap_39 p) ⟨prog, p⟩ (bindArgs fd ⟨args, []⟩) = some binds) : BindOK (FK p) prog w fd args binds := by
  subst hp
  intro A s Q E kx hq
  exact Looks.here (Looks.of_peek (K := hd.heap_39 w.params) (M := model prog w) kx h) hq

section
variable {prog : Program} {w : World} {mg mb : Str → Option Value}
theorem bisK : Bis prog w (FK w.params) mg mb where
  l := by
    intro A s l vs is x t ak G hl hI hlim
    refine bis_call (f := 11) (l := l) (x := x) (t := t) (tl := 311) (K := bisL is x (is.length + 1) 0 is.length) ⟨⟨_, rfl, rfl⟩, ⟨_, _, _, _, rfl, rfl, rfl, rfl⟩, rfl, rfl, rfl, rfl, rfl, rfl, by decide +kernel⟩ (by kernel_rfl) ak.aw G (bindOK_of rfl (by kernel_rfl)) fun A env s₁ B b => ?_
    exact bis_body B G hl hI hlim b fun b' => bisL_while (f₀ := is.length + 1) B hl hI hlim b' (Nat.zero_le _) (Nat.le_refl _) (by omega) rfl
  r := by
    intro A s l vs is x t ak G hl hI hlim
    refine bis_call (f := 12) (l := l) (x := x) (t := t) (tl := 297) (K := bisR is x (is.length + 1) 0 is.length) ⟨⟨_, rfl, rfl⟩, ⟨_, _, _, _, rfl, rfl, rfl, rfl⟩, rfl, rfl, rfl, rfl, rfl, rfl, by decide +kernel⟩ (by kernel_rfl) ak.aw G (bindOK_of rfl (by kernel_rfl)) fun A env s₁ B b => ?_
    exact bis_body B G hl hI hlim b fun b' => bisR_while (f₀ := is.length + 1) B hl hI hlim b' (Nat.zero_le _) (Nat.le_refl _) (by omega) rfl
theorem insK : Insort prog w (FK w.params) mg mb := by
  intro A s l vs is x t ak G hp hI hlim
  refine ins_call (tl := 284) ⟨⟨_, rfl, rfl⟩, ⟨_, _, _, _, rfl, rfl, rfl, rfl⟩, rfl, rfl, rfl, rfl, rfl, rfl, by decide +kernel⟩ (by kernel_rfl) ak G hp hI hlim (bindOK_of rfl (by kernel_rfl)) (fun env => ⟨_, rfl⟩) ?_
  intro A s ak G hl
  refine bis_call (f := 12) (l := l) (x := x) (t := t) (tl := 284) (K := bisR is x (is.length + 1) 0 is.length) ⟨⟨_, rfl, rfl⟩, ⟨_, _, _, _, rfl, rfl, rfl, rfl⟩, rfl, rfl, rfl, rfl, rfl, rfl, by decide +kernel⟩ (by kernel_rfl) ak G (bindOK_of rfl (by kernel_rfl)) fun A env s₁ B b => ?_
  exact bis_body B G hl hI hlim b fun b' => bisR_while (f₀ := is.length + 1) B hl hI hlim b' (Nat.zero_le _) (Nat.le_refl _) (by omega) rfl

theorem pat1 (p : Params) : PatAt (FK p) 76 code1 1 := ⟨_, _, _, _, _, _, rfl, rfl, rfl, rfl, rfl, rfl, rfl, rfl, rfl, by kernel_rfl⟩
theorem pat2 (p : Params) : PatAt (FK p) 81 code2 0 := ⟨_, _, _, _, _, _, rfl, rfl, rfl, rfl, rfl, rfl, rfl, rfl, rfl, by kernel_rfl⟩
theorem patQ (p : Params) : PatAt (FK p) 63 codeQ 1 := ⟨_, _, _, _, _, _, rfl, rfl, rfl, rfl, rfl, rfl, rfl, rfl, rfl, by kernel_rfl⟩

theorem primK (h1 : mg "_twin_re_2" = some (.ref 81)) (h2 : mg "CRLF" = some (.str (PySem.Str.ofString "\r\n") 440)) (h3 : mg "_twin_re_1" = some (.ref 76)) (h4 : mg "_quoted" = some (.ref 63)) : ∀ f, f ≤ 10 → fns f = none → PrimOK prog w (FK w.params) mg mb prim f := by
  intro f hf hn
  have : f = 8 ∨ f = 9 ∨ f = 10 := by
    match f, hn with
    | 0, hn => cases hn
    | 1, hn => cases hn
    | 2, hn => cases hn
    | 3, hn => cases hn
    | 4, hn => cases hn
    | 5, hn => cases hn
    | 6, hn => cases hn
    | 7, hn => cases hn
    | f + 8, _ => omega
  rcases this with rfl | rfl | rfl
  · intro A X ds d vs s; exact paren_ok ⟨⟨_, rfl, rfl⟩, ⟨_, _, _, _, rfl, rfl, rfl, rfl⟩, rfl, rfl, rfl, rfl, rfl, rfl, by decide +kernel⟩ (by kernel_rfl) (fun v u => bindOK_of rfl (by kernel_rfl)) (fun env => ⟨_, rfl⟩) (fun env => ⟨_, rfl⟩) (fun env => ⟨_, rfl⟩) h4 (patQ _)
  · intro A X ds d vs s; exact quote_ok ⟨⟨_, rfl, rfl⟩, ⟨_, _, _, _, rfl, rfl, rfl, rfl⟩, rfl, rfl, rfl, rfl, rfl, rfl, by decide +kernel⟩ (by kernel_rfl) (fun v => bindOK_of rfl (by kernel_rfl)) (fun env => ⟨_, rfl⟩) h3 (pat1 _)
  · intro A X ds d vs s; exact fix_ok ⟨⟨_, rfl, rfl⟩, ⟨_, _, _, _, rfl, rfl, rfl, rfl⟩, rfl, rfl, rfl, rfl, rfl, rfl, by decide +kernel⟩ (by kernel_rfl) (fun v => bindOK_of rfl (by kernel_rfl)) (fun env => ⟨_, rfl⟩) h1 h2 (pat2 _)

theorem defK (p : Params) : ∀ f fn, f ≤ 10 → fns f = some fn → DefOK (FK p) f fn := by
  intro f fn hf hn
  match f, hn with
  | 0, hn => cases hn; exact d0 p
  | 1, hn => cases hn; exact d1 p
  | 2, hn => cases hn; exact d2 p
  | 3, hn => cases hn; exact d3 p
  | 4, hn => cases hn; exact d4 p
  | 5, hn => cases hn; exact d5 p
  | 6, hn => cases hn; exact d6 p
  | 7, hn => cases hn; exact d7 p
  | f + 8, hn => cases hn
theorem law_call {A : Around} {s : Shared} {l : Addr} {vs : List Value} {is : List Int} {d : D} {σ' : St} {n : Nat} (KX : (hd.heap_39 w.params).In s.heap) (g : s.heap.Ns mainGlobals mg) (b : s.heap.Ns builtinsNs mb) (nolimit : s.heap.NoLimit) (hb : ∀ x : Str, x ≠ "__name__" → mb x = bootBuiltins x)
    (a : AOK (n + 2) A) (hl : s.heap.IsList l vs.toArray) (hI : IntsAre vs is) (h : (ev fns prim n).ss ⟨[(0, .lst (is.map .int))], none⟩ lawB = some (σ', .ret d)) : wpAny (model prog w) A (call (.ref 150) [.ref l]) (EP [] d s) noE s := by
  have mgs : ∀ x v, nsIn (hd.heap_39 w.params) mainGlobals x = some (some v) → mg x = some v := fun x v e => mg_of KX g e
  have mgn : ∀ x, nsIn (hd.heap_39 w.params) mainGlobals x = some none → mg x = none := fun x e => mg_none KX g e
  have G : GF (FK w.params) mg mb s.heap := by
    refine ⟨g, b, nolimit, fun f hf => ?_, fun x hx => ?_, fun a o e => KX a o e, ?_⟩
    · match f, hf with
      | 0, _ => exact ⟨mgs _ _ (by kernel_rfl), _, _, KX _ _ (by rfl), rfl⟩
      | 1, _ => exact ⟨mgs _ _ (by kernel_rfl), _, _, KX _ _ (by rfl), rfl⟩
      | 2, _ => exact ⟨mgs _ _ (by kernel_rfl), _, _, KX _ _ (by rfl), rfl⟩
      | 3, _ => exact ⟨mgs _ _ (by kernel_rfl), _, _, KX _ _ (by rfl), rfl⟩
      | 4, _ => exact ⟨mgs _ _ (by kernel_rfl), _, _, KX _ _ (by rfl), rfl⟩
      | 5, _ => exact ⟨mgs _ _ (by kernel_rfl), _, _, KX _ _ (by rfl), rfl⟩
      | 6, _ => exact ⟨mgs _ _ (by kernel_rfl), _, _, KX _ _ (by rfl), rfl⟩
      | 7, _ => exact ⟨mgs _ _ (by kernel_rfl), _, _, KX _ _ (by rfl), rfl⟩
      | 8, _ => exact ⟨mgs _ _ (by kernel_rfl), _, _, KX _ _ (by rfl), rfl⟩
      | 9, _ => exact ⟨mgs _ _ (by kernel_rfl), _, _, KX _ _ (by rfl), rfl⟩
      | 10, _ => exact ⟨mgs _ _ (by kernel_rfl), _, _, KX _ _ (by rfl), rfl⟩
      | 11, _ => exact ⟨mgs _ _ (by kernel_rfl), _, _, KX _ _ (by rfl), rfl⟩
      | 12, _ => exact ⟨mgs _ _ (by kernel_rfl), _, _, KX _ _ (by rfl), rfl⟩
      | 13, _ => exact ⟨mgs _ _ (by kernel_rfl), _, _, KX _ _ (by rfl), rfl⟩
      | f + 14, hf => exact absurd hf (by omega)
    · simp only [List.mem_cons, List.not_mem_nil, or_false] at hx
      rcases hx with rfl | rfl | rfl | rfl
      · exact ⟨mgn _ (by kernel_rfl), (hb _ (by decide)).trans (by kernel_rfl)⟩
      · exact ⟨mgn _ (by kernel_rfl), (hb _ (by decide)).trans (by kernel_rfl)⟩
      · exact ⟨mgn _ (by kernel_rfl), (hb _ (by decide)).trans (by kernel_rfl)⟩
      · exact ⟨mgn _ (by kernel_rfl), (hb _ (by decide)).trans (by kernel_rfl)⟩
    · exact ⟨mgn _ (by kernel_rfl), (hb _ (by decide)).trans (by kernel_rfl)⟩
  have S := sound (prog := prog) (w := w) (prim := prim) (bisK (mg := mg) (mb := mb)) insK (defK w.params) (primK (mgs _ _ (by kernel_rfl)) (mgs _ _ (by kernel_rfl)) (mgs _ _ (by kernel_rfl)) (mgs _ _ (by kernel_rfl))) n
  have rl : Rel [] s.heap (.ref l) (.lst (is.map .int)) := .lst (by simp) hl (IntsAre.rel hI)
  exact def_ok (f := 14) S.2.1 a (d14 w.params) (ds := [.lst (is.map .int)]) rfl h G (fun _ h => nomatch h) (.cons rl .nil)
end
end Mine
open PySem PySem.W PyProof.Rows PySem.Calls
set_option maxRecDepth 100000
set_option maxHeartbeats 8000000
set_option linter.unusedVariables false
theorem PySem.Challenge.cw_sr0011_01_holds : PySem.Challenge.rw_sr0011_01.Holds :=
  Mine.hd (by
  k_fill
  intro w s₀ s₁ mg mb G Y fa o pm cd doc dV kV ho hd hcd hD hmg hg args vals as hpre hlay hrd hwl hlo
  have KX := kIn_of Y
  have X := (Ground.X G).1
  have V := (Ground.X G).2
  refine Ground.open G ?_
  intro T B D TE TW
  have e150 : fa = 150 := by
    have := mg_of (n := "law") (v := .ref 150) KX T.g (by kernel_rfl)
    have e : some (Value.ref fa) = some (Value.ref 150) := hmg.symm.trans this
    injection e with e; injection e
  subst e150
  clear hmg ho hd hcd hD
  wrow_args hpre hlay hrd hwl hlo
  rename_i is _ _ _ _ _ _ _ _ _ _ _ _ _ _ _ hlen _
  obtain ⟨σ', hev⟩ := Mine.plain _ (by assumption)
  refine wpAny_mono (Mine.law_call KX T.g T.b T.nolimit T.builtins (Mine.AOK.mk rfl (by decide) (by decide)) (by assumption) (by assumption) hev) (fun v s' hv => GoodW.toG ?_) (fun _ _ e => e.elim)
  obtain ⟨⟨h', tk, rfl, hk⟩, r⟩ := hv
  cases r
  refine ⟨.inl ⟨_, .bool true, [], rfl, raisesW_false (by wrow_none_raised), .bool _, by wrow_post, fun _ => ⟨List.nodup_nil, fun _ h => nomatch h⟩⟩, hk, rfl, hg⟩)
