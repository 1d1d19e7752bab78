import PyProof.Rows.All
import Wide.All
import OpenK.AllK
import Wide.FinOn
import Lean
import PySem.Challenge.RW_fr0006_01
open PySem PySem.W PyProof.Rows
set_option Elab.async false
set_option maxRecDepth 100000
set_option autoImplicit false
set_option linter.unusedVariables false
namespace Mine
open PySem.SeqAt PySem.MeetsSeq PySem.MeetsSeq2 PySem.MeetsSeq3

/-! ## keys: a text or bytes -/
inductive Key where
  | s (x : Str)
  | b (x : List UInt8)
deriving DecidableEq

section
variable {A : Around} {s : Shared}
theorem str_eq_bytes (x : Str) (t : Tok) (b : Array UInt8) (u : Tok) : Gives (Builtin.«str.__eq__» ⟨[.str x t, .bytes b u], []⟩) (.val (Value.notImplemented)) :=
  .of_wp fun M A E s Q h => by obtain ⟨hp, g, d, tk, os⟩ := s; have f1 := PySem.F.sub_bytes_str; wp_walk; exact ⟨_, rfl, h⟩
theorem bytes_eq_str (x : Str) (t : Tok) (b : Array UInt8) (u : Tok) : Gives (Builtin.«bytes.__eq__» ⟨[.bytes b u, .str x t], []⟩) (.val (Value.notImplemented)) :=
  .of_wp fun M A E s Q h => by obtain ⟨hp, g, d, tk, os⟩ := s; have f1 := PySem.F.sub_str_bytes; wp_walk; exact ⟨_, rfl, h⟩
theorem typeIs_bytes (s : Shared) (b : Array UInt8) (t : Tok) : s.TypeIs (.bytes b t) "bytes" := rfl
theorem rc_str_bytes (x : Str) (t : Tok) (b : Array UInt8) (u : Tok) : RcAt A s (.str x t) (.bytes b u) false := fun prog w E Q h =>
  rc_eq_decline_or (k := false) (typeIs_str s x t) (typeIs_bytes s b u) (by decide) PySem.F.sub_bytes_str PySem.F.slot_str_eq (show Slot "bytes" (cmpInfo .Eq).2.2 "bytes.__eq__" from FB.slot_bytes_eq)
    (fun _ hq => call_gives PySem.F.slot_str_eq (typeIs_str s x t) PySem.F.entry_str_eq (PySem.F.args_str_eq_2 _ _) (str_eq_bytes x t b u) hq)
    (fun _ hq => call_gives FB.slot_bytes_eq (typeIs_bytes s b u) FB.entry_bytes_eq (FB.args_bytes_eq_2 _ _) (bytes_eq_str x t b u) hq)
    (fun _ hq => wpAny_of_eq (rfl : isSame (.str x t) (.bytes b u) = pure false) hq) (.inl rfl) h
theorem rc_bytes_str (x : Str) (t : Tok) (b : Array UInt8) (u : Tok) : RcAt A s (.bytes b u) (.str x t) false := fun prog w E Q h =>
  rc_eq_decline_or (k := false) (typeIs_bytes s b u) (typeIs_str s x t) (by decide) PySem.F.sub_str_bytes FB.slot_bytes_eq PySem.F.slot_str_eq_refl
    (fun _ hq => call_gives FB.slot_bytes_eq (typeIs_bytes s b u) FB.entry_bytes_eq (FB.args_bytes_eq_2 _ _) (bytes_eq_str x t b u) hq)
    (fun _ hq => call_gives PySem.F.slot_str_eq (typeIs_str s x t) PySem.F.entry_str_eq (PySem.F.args_str_eq_2 _ _) (str_eq_bytes x t b u) hq)
    (fun _ hq => wpAny_of_eq (rfl : isSame (.bytes b u) (.str x t) = pure false) hq) (.inl rfl) h
theorem eq_str_bytes (x : Str) (t : Tok) (b : Array UInt8) (u : Tok) : EqAt A s (.str x t) (.bytes b u) false := fun prog w E Q h => by
  unfold eqBool
  refine wpAny_holding ?_
  refine wpAny_ite_split (fun hab => absurd (eq_of_beq hab) nofun) (fun _ => ?_)
  exact wpAny_bind (rc_str_bytes x t b u prog w E _ (wpAny_truthy_bool h))
theorem eq_bytes_str (x : Str) (t : Tok) (b : Array UInt8) (u : Tok) : EqAt A s (.bytes b u) (.str x t) false := fun prog w E Q h => by
  unfold eqBool
  refine wpAny_holding ?_
  refine wpAny_ite_split (fun hab => absurd (eq_of_beq hab) nofun) (fun _ => ?_)
  exact wpAny_bind (rc_bytes_str x t b u prog w E _ (wpAny_truthy_bool h))
theorem eq_bytes (b c : Array UInt8) (t u : Tok) : EqAt A s (.bytes b t) (.bytes c u) (decide (b.toList = c.toList)) := fun _ _ _ _ h => eqBool_bytes h
end

def keyKind (prog : Program) (w : World) : KeyKind prog w Key where
  is := fun k v => match k with | .s x => (strKind prog w).is x v | .b x => (bytesKind prog w).is x v
  hash := fun k => match k with | .s x => (strKind prog w).hash x | .b x => (bytesKind prog w).hash x
  inj := fun v a b ha hb => by
    cases a with
    | s x =>
      obtain ⟨t, rfl⟩ := Value.isStrOf_shape ha
      cases b with
      | s y => exact congrArg Key.s ((strKind prog w).inj _ _ _ ha hb)
      | b y => cases hb
    | b x =>
      obtain ⟨t, rfl⟩ := isBytes_shape ha
      cases b with
      | s y => cases hb
      | b y => exact congrArg Key.b ((bytesKind prog w).inj _ _ _ ha hb)
  byValue := fun k v h => by
    cases k with
    | s x => exact (strKind prog w).byValue x v h
    | b x => exact (bytesKind prog w).byValue x v h
  pyHash := fun {A E s k v Q} hv h => by
    cases k with
    | s x => exact (strKind prog w).pyHash hv h
    | b x => exact (bytesKind prog w).pyHash hv h
  eqBool := fun {A E s a b u v Q} hu hv h => by
    cases a with
    | s x =>
      cases b with
      | s y => exact (strKind prog w).eqBool hu hv (by simpa using h)
      | b y =>
        obtain ⟨t, rfl⟩ := Value.isStrOf_shape hu
        obtain ⟨t', rfl⟩ := isBytes_shape hv
        exact eq_str_bytes _ _ _ _ _ _ _ _ (by simpa using h)
    | b x =>
      cases b with
      | s y =>
        obtain ⟨t, rfl⟩ := isBytes_shape hu
        obtain ⟨t', rfl⟩ := Value.isStrOf_shape hv
        exact eq_bytes_str _ _ _ _ _ _ _ _ (by simpa using h)
      | b y => exact (bytesKind prog w).eqBool hu hv (by simpa using h)
  «strs» := fun k x t v h => by
    cases k with
    | s y => exact (strKind prog w).strs y x t v h
    | b y => cases h

/-! ## data -/
inductive D where
  | none
  | bool (b : Bool)
  | int (i : Int)
  | str (x : Str)
  | bytes (b : List UInt8)
  | tuple (ds : List D)
  | list (ds : List D)
  | dict (ks : List Key) (ds : List D)
  /-- an object of which nothing is told -/
  | addr (a : Addr)

abbrev KM := Addr → Option Obj
/-- no list of the text is longer -/
def lim : Nat := 4096

mutual
inductive Rep (prog : Program) (w : World) (K : KM) : Value → D → Prop
  | none : Rep prog w K .none .none
  | bool (b : Bool) : Rep prog w K (.bool b) (.bool b)
  | int (i : Int) (t : Tok) : Rep prog w K (.int i t) (.int i)
  | str (x : Str) (t : Tok) : Rep prog w K (.str x t) (.str x)
  | bytes (b : List UInt8) (t : Tok) : Rep prog w K (.bytes b.toArray t) (.bytes b)
  | addr (a : Addr) : Rep prog w K (.ref a) (.addr a)
  | tuple {a : Addr} {o : Obj} {vs : List Value} {n : Nat} {ds : List D} : K a = some o → o.cls = .type "tuple" → o.data = .seq vs.toArray n → All prog w K vs ds → ds.length ≤ lim → Rep prog w K (.ref a) (.tuple ds)
  | list {a : Addr} {o : Obj} {vs : List Value} {n : Nat} {ds : List D} : K a = some o → o.cls = .type "list" → o.data = .seq vs.toArray n → All prog w K vs ds → ds.length ≤ lim → (hp : o.dict = Option.none ∧ o.slots = #[] := by exact ⟨rfl, rfl⟩) → Rep prog w K (.ref a) (.list ds)
  | dict {a : Addr} {o : Obj} {kvs : List (Key × Value)} {ks : List Key} {vs : List Value} {ds : List D} : K a = some o → o.IsDictOf (keyKind prog w) kvs → (a == sysModules) = false → kvs.map (·.1) = ks → kvs.map (·.2) = vs → All prog w K vs ds → ds.length ≤ lim → (hp : o.dict = Option.none := by rfl) → Rep prog w K (.ref a) (.dict ks ds)
inductive All (prog : Program) (w : World) (K : KM) : List Value → List D → Prop
  | nil : All prog w K [] []
  | cons {v : Value} {d : D} {vs : List Value} {ds : List D} : Rep prog w K v d → All prog w K vs ds → All prog w K (v :: vs) (d :: ds)
end

def Sub (K K' : KM) : Prop := ∀ a o, K a = some o → K' a = some o
theorem Sub.refl (K : KM) : Sub K K := fun _ _ h => h
theorem Sub.trans {K K' K'' : KM} (h : Sub K K') (h' : Sub K' K'') : Sub K K'' := fun a o x => h' a o (h a o x)
def InH (K : KM) (h : Heap) : Prop := ∀ a o, K a = some o → h.get? a = some o

section
variable {prog : Program} {w : World} {K K' : KM}
mutual
theorem Rep.mono (hs : Sub K K') : ∀ {v : Value} {d : D}, Rep prog w K v d → Rep prog w K' v d
  | _, _, .none => .none
  | _, _, .bool b => .bool b
  | _, _, .int i t => .int i t
  | _, _, .str x t => .str x t
  | _, _, .bytes b t => .bytes b t
  | _, _, .addr a => .addr a
  | _, _, .tuple h1 h2 h3 h4 h5 => .tuple (hs _ _ h1) h2 h3 (All.mono hs h4) h5
  | _, _, .list h1 h2 h3 h4 h5 h6 => .list (hs _ _ h1) h2 h3 (All.mono hs h4) h5 h6
  | _, _, .dict h1 h2 h3 h4 h5 h6 h7 h8 => .dict (hs _ _ h1) h2 h3 h4 h5 (All.mono hs h6) h7 h8
theorem All.mono (hs : Sub K K') : ∀ {vs : List Value} {ds : List D}, All prog w K vs ds → All prog w K' vs ds
  | _, _, .nil => .nil
  | _, _, .cons h r => .cons (Rep.mono hs h) (All.mono hs r)
end
theorem All.length : ∀ {vs : List Value} {ds : List D}, All prog w K vs ds → vs.length = ds.length
  | _, _, .nil => rfl
  | _, _, .cons _ r => by rw [List.length_cons, List.length_cons, All.length r]
theorem All.get : ∀ {vs : List Value} {ds : List D}, All prog w K vs ds → ∀ {i : Nat} {d : D}, ds[i]? = some d → ∃ v, vs[i]? = some v ∧ Rep prog w K v d
  | _, _, .nil, i, d, h => by simp at h
  | _, _, .cons (v := v) h _, 0, d, e => by simp at e; subst e; exact ⟨v, rfl, h⟩
  | _, _, .cons _ r, i + 1, d, e => by simp at e; obtain ⟨v, h1, h2⟩ := All.get r e; exact ⟨v, by simpa using h1, h2⟩
theorem All.getV : ∀ {vs : List Value} {ds : List D}, All prog w K vs ds → ∀ {i : Nat} {v : Value}, vs[i]? = some v → ∃ d, ds[i]? = some d ∧ Rep prog w K v d
  | _, _, .nil, i, d, h => by simp at h
  | _, _, .cons (d := d) h _, 0, v, e => by simp at e; subst e; exact ⟨d, rfl, h⟩
  | _, _, .cons _ r, i + 1, v, e => by simp at e; obtain ⟨d, h1, h2⟩ := All.getV r e; exact ⟨d, by simpa using h1, h2⟩
theorem All.append : ∀ {vs us : List Value} {ds es : List D}, All prog w K vs ds → All prog w K us es → All prog w K (vs ++ us) (ds ++ es)
  | _, _, _, _, .nil, q => q
  | _, _, _, _, .cons h r, q => .cons h (All.append r q)
theorem All.snoc {vs : List Value} {ds : List D} {v : Value} {d : D} (h : All prog w K vs ds) (r : Rep prog w K v d) : All prog w K (vs ++ [v]) (ds ++ [d]) := h.append (.cons r .nil)
theorem All.drop : ∀ (n : Nat) {vs : List Value} {ds : List D}, All prog w K vs ds → All prog w K (vs.drop n) (ds.drop n)
  | 0, _, _, h => h
  | _ + 1, _, _, .nil => .nil
  | n + 1, _, _, .cons _ r => All.drop n r
theorem All.take : ∀ (n : Nat) {vs : List Value} {ds : List D}, All prog w K vs ds → All prog w K (vs.take n) (ds.take n)
  | 0, _, _, _ => by rw [List.take_zero, List.take_zero]; exact .nil
  | _ + 1, _, _, .nil => .nil
  | n + 1, _, _, .cons h r => .cons h (All.take n r)
end

/-! ## equality -/
def lk (ks : List Key) (ds : List D) (k : Key) : Option D := ((ks.zip ds).find? fun p => p.1 = k).map (·.2)

mutual
def D.depth : D → Nat
  | .tuple ds => D.depths ds + 1
  | .list ds => D.depths ds + 1
  | .dict _ ds => D.depths ds + 1
  | _ => 0
def D.depths : List D → Nat
  | [] => 0
  | d :: ds => max d.depth (D.depths ds)
end

mutual
inductive DEq : D → D → Prop
  | none : DEq .none .none
  | bool (b : Bool) : DEq (.bool b) (.bool b)
  | int (i : Int) : DEq (.int i) (.int i)
  | str (x : Str) : DEq (.str x) (.str x)
  | bytes (b : List UInt8) : DEq (.bytes b) (.bytes b)
  | tuple {ds es : List D} : DEqs ds es → DEq (.tuple ds) (.tuple es)
  | list {ds es : List D} : DEqs ds es → DEq (.list ds) (.list es)
  | dict {ks ks' : List Key} {ds es : List D} (g : Key → D) : ks.length = ks'.length → (∀ k d, lk ks ds k = some d → lk ks' es k = some (g k)) → (∀ k d, (k, d) ∈ ks.zip ds → DEq d (g k)) → DEq (.dict ks ds) (.dict ks' es)
inductive DEqs : List D → List D → Prop
  | nil : DEqs [] []
  | cons {d e : D} {ds es : List D} : DEq d e → DEqs ds es → DEqs (d :: ds) (e :: es)
end
theorem DEqs.length : ∀ {ds es : List D}, DEqs ds es → ds.length = es.length
  | _, _, .nil => rfl
  | _, _, .cons _ r => by rw [List.length_cons, List.length_cons, DEqs.length r]
theorem DEqs.get : ∀ {ds es : List D}, DEqs ds es → ∀ {i : Nat} {d e : D}, ds[i]? = some d → es[i]? = some e → DEq d e
  | _, _, .nil, i, d, e, h, _ => by simp at h
  | _, _, .cons h _, 0, d, e, e1, e2 => by simp at e1 e2; subst e1 e2; exact h
  | _, _, .cons _ r, i + 1, d, e, e1, e2 => by simp at e1 e2; exact DEqs.get r e1 e2
theorem D.depth_get : ∀ {ds : List D} {i : Nat} {d : D}, ds[i]? = some d → d.depth ≤ D.depths ds
  | [], i, d, h => by simp at h
  | e :: ds, 0, d, h => by simp at h; subst h; rw [D.depths]; omega
  | e :: ds, i + 1, d, h => by simp at h; have := D.depth_get h; rw [D.depths]; omega

theorem lk_of_valueAt {prog : Program} {w : World} {K : KM} : ∀ {kvs : List (Key × Value)} {ds : List D} {k : Key} {d : D}, All prog w K (kvs.map (·.2)) ds → lk (kvs.map (·.1)) ds k = some d → ∃ v, valueAt kvs k = some v ∧ Rep prog w K v d
  | [], ds, k, d, _, h => by simp [lk] at h
  | (k', v') :: r, ds, k, d, ha, h => by
    cases ds with
    | nil => simp [lk] at h
    | cons e es =>
      cases ha with
      | cons h1 h2 =>
        simp only [lk, List.map_cons, List.zip_cons_cons, List.find?_cons] at h
        by_cases hk : k' = k
        · simp [hk] at h
          subst h
          exact ⟨v', by simp [valueAt, hk], h1⟩
        · simp only [hk, decide_false] at h
          obtain ⟨v, q1, q2⟩ := lk_of_valueAt (k := k) (d := d) h2 h
          exact ⟨v, by simp [valueAt, hk] at q1 ⊢; exact q1, q2⟩

theorem mem_zip_of_get {ks : List Key} {ds : List D} {i : Nat} {k : Key} {d : D} (h1 : ks[i]? = some k) (h2 : ds[i]? = some d) : (k, d) ∈ ks.zip ds := by
  refine List.mem_of_getElem? (i := i) ?_
  rw [List.getElem?_zip_eq_some]; exact ⟨h1, h2⟩

theorem lk_of_nodup : ∀ {ks : List Key} {ds : List D} {i : Nat} {k : Key} {d : D}, ks.Nodup → ks[i]? = some k → ds[i]? = some d → lk ks ds k = some d
  | [], _, i, _, _, _, h, _ => by simp at h
  | _ :: _, [], i, _, _, _, _, h => by simp at h
  | a :: ks, e :: ds, 0, k, d, _, h1, h2 => by simp at h1 h2; subst h1 h2; simp [lk]
  | a :: ks, e :: ds, i + 1, k, d, hn, h1, h2 => by
    simp at h1 h2
    rw [List.nodup_cons] at hn
    have hne : a ≠ k := fun q => hn.1 (q ▸ List.mem_of_getElem? h1)
    have := lk_of_nodup hn.2 h1 h2
    simp only [lk, List.zip_cons_cons, List.find?_cons, hne, decide_false] at this ⊢
    exact this

/-- what eqBool gives in one model -/
def EqF (prog : Program) (w : World) (A : Around) (s : Shared) (y x : Value) : Prop :=
  ∀ (E : Value → Shared → Prop) (Q : Bool → Shared → Prop), Q true s → wpAny (model prog w) A (eqBool y x) Q E s
/-- both comparisons, of two that are equal -/
def RcF (prog : Program) (w : World) (A : Around) (s : Shared) (y x : Value) : Prop :=
  ∀ (op : CmpOp) (r : Bool), (op = .Eq ∧ r = true ∨ op = .NotEq ∧ r = false) → ∀ (E : Value → Shared → Prop) (Q : Value → Shared → Prop), Q (.bool r) s → wpAny (model prog w) A (richCompare op y x) Q E s

section
variable {prog : Program} {w : World} {A : Around} {s : Shared}
open AutoSeq1 (wpAny_loadPart')
theorem EqF.of_at {y x : Value} (h : EqAt A s y x true) : EqF prog w A s y x := fun E Q q => h prog w E Q q
theorem EqF.of_refs {l b : Addr} (h : RcF prog w A s (.ref l) (.ref b)) : EqF prog w A s (.ref l) (.ref b) := fun E Q q => by
  by_cases hne : l = b
  · subst hne; exact EqAt.same (A := A) (s := s) _ prog w E Q q
  · unfold eqBool
    refine wpAny_holding ?_
    refine wpAny_ite_split (fun hab => absurd (by have := eq_of_beq hab; injection this) hne) (fun _ => ?_)
    exact wpAny_bind (h .Eq true (.inl ⟨rfl, rfl⟩) E _ (wpAny_truthy_bool q))

theorem eqLoop (l b : Addr) (xs ys : Array Value) (n n2 : Nat) (dd dd2 : Option Addr) (sl sl2 : Array (Option Value)) (hsz : xs.size = ys.size) (code : Int) (r : Bool) (hc : code = 2 ∧ r = true ∨ code = 3 ∧ r = false) (k : Nat) :
    ∀ i : Nat, xs.size - i = k → MeetsIn prog w (Builtin.«list.__eq__.loop» ⟨[.ref l, .ref b, rawInt i, rawInt code], []⟩)
      (fun A R s => s.heap.get? l = some { cls := .type "list", dict := dd, data := .seq xs n, slots := sl } ∧ s.heap.get? b = some { cls := .type "list", dict := dd2, data := .seq ys n2, slots := sl2 } ∧
        (∀ j (h1 : j < xs.size) (h2 : j < ys.size), EqF prog w A.in1 s xs[j] ys[j]) ∧ R (.ok (.ret (.bool r))) s) := by
  induction k with
  | zero =>
    intro i hk A R s h
    obtain ⟨hp, g, d, tk, os⟩ := s; obtain ⟨hl, hb, he, h⟩ := h
    have hi1 : xs[((i : Nat) : Int).toNat]? = none := by simp; omega
    have hi2 : ys[((i : Nat) : Int).toNat]? = none := by simp; omega
    rcases hc with ⟨rfl, rfl⟩ | ⟨rfl, rfl⟩
    · wp_walk using wpAny_loadPart' hl, wpAny_loadPart' hb
      rw [hi1, hi2]
      wp_walk using wpAny_loadPart' hl, wpAny_loadPart' hb
      show R (.ok (.ret (.bool (xs.size == ys.size)))) _
      rw [hsz]; simpa using h
    · wp_walk using wpAny_loadPart' hl, wpAny_loadPart' hb
      rw [hi1, hi2]
      wp_walk using wpAny_loadPart' hl, wpAny_loadPart' hb
      show R (.ok (.ret (.bool (xs.size != ys.size)))) _
      rw [hsz]; simpa using h
  | succ k ih =>
    intro i hk A R s h
    have ih' := ih (i + 1) (by omega) A R
    obtain ⟨hp, g, d, tk, os⟩ := s; obtain ⟨hl, hb, he, h⟩ := h
    have h1 : i < xs.size := by omega
    have h2 : i < ys.size := by omega
    have hi1 : xs[((i : Nat) : Int).toNat]? = some xs[i] := by simp [h1]
    have hi2 : ys[((i : Nat) : Int).toNat]? = some ys[i] := by simp [h2]
    have hc' : ((i : Int) + 1) = ((i + 1 : Nat) : Int) := by push_cast; rfl
    rcases hc with ⟨rfl, rfl⟩ | ⟨rfl, rfl⟩ <;>
    · wp_walk using wpAny_loadPart' hl, wpAny_loadPart' hb
      rw [hi1, hi2]
      refine wpAny_bind (he i h1 h2 _ _ ?_)
      wp_walk
      rw [hc']
      exact ⟨plainId_quiet plain_eq_loop _, codeAny_builtin entry_eq_loop (by
        rw [Around.under_plainId plain_eq_loop _]
        exact ih' _ ⟨hl, hb, he, h⟩)⟩

theorem list_same (l b : Addr) (xs ys : Array Value) (n n2 : Nat) (dd dd2 : Option Addr) (sl sl2 : Array (Option Value)) (hsz : xs.size = ys.size) :
    MeetsIn prog w (Builtin.«list.__eq__» ⟨[.ref l, .ref b], []⟩)
      (fun A R s => s.heap.get? l = some { cls := .type "list", dict := dd, data := .seq xs n, slots := sl } ∧ s.heap.get? b = some { cls := .type "list", dict := dd2, data := .seq ys n2, slots := sl2 } ∧
        (∀ j (h1 : j < xs.size) (h2 : j < ys.size), EqF prog w A.in1 s xs[j] ys[j]) ∧ R (.ok (.ret (.bool true))) s) := by
  intro A R s h
  have hL := eqLoop (prog := prog) (w := w) l b xs ys n n2 dd dd2 sl sl2 hsz 2 true (.inl ⟨rfl, rfl⟩) _ 0 rfl A R
  obtain ⟨hp, g, d, tk, os⟩ := s; obtain ⟨hl, hb, he, h⟩ := h
  have f3 := AutoSeq1.sub_list_list
  have hne : ¬ (xs.size != ys.size) = true := by simp [hsz]
  wp_walk using wpAny_loadPart' hl, wpAny_loadPart' hb
  exact ⟨plainId_quiet plain_eq_loop _, codeAny_builtin entry_eq_loop (by
    rw [Around.under_plainId plain_eq_loop _]
    exact hL _ ⟨hl, hb, he, h⟩)⟩
theorem list_differ (l b : Addr) (xs ys : Array Value) (n n2 : Nat) (dd dd2 : Option Addr) (sl sl2 : Array (Option Value)) (hsz : xs.size = ys.size) :
    MeetsIn prog w (Builtin.«list.__ne__» ⟨[.ref l, .ref b], []⟩)
      (fun A R s => s.heap.get? l = some { cls := .type "list", dict := dd, data := .seq xs n, slots := sl } ∧ s.heap.get? b = some { cls := .type "list", dict := dd2, data := .seq ys n2, slots := sl2 } ∧
        (∀ j (h1 : j < xs.size) (h2 : j < ys.size), EqF prog w A.in1 s xs[j] ys[j]) ∧ R (.ok (.ret (.bool false))) s) := by
  intro A R s h
  have hL := eqLoop (prog := prog) (w := w) l b xs ys n n2 dd dd2 sl sl2 hsz 3 false (.inr ⟨rfl, rfl⟩) _ 0 rfl A R
  obtain ⟨hp, g, d, tk, os⟩ := s; obtain ⟨hl, hb, he, h⟩ := h
  have f3 := AutoSeq1.sub_list_list
  have hne : ¬ (xs.size != ys.size) = true := by simp [hsz]
  wp_walk using wpAny_loadPart' hl, wpAny_loadPart' hb
  exact ⟨plainId_quiet plain_eq_loop _, codeAny_builtin entry_eq_loop (by
    rw [Around.under_plainId plain_eq_loop _]
    exact hL _ ⟨hl, hb, he, h⟩)⟩

theorem tuple_same (op : CmpOp) (B : Builtin) (r : Bool) (hB : op = .Eq ∧ r = true ∧ B = Builtin.«tuple.__eq__» ∨ op = .NotEq ∧ r = false ∧ B = Builtin.«tuple.__ne__»)
    (l b : Addr) (xs ys : Array Value) (n n2 : Nat) (dd dd2 : Option Addr) (sl sl2 : Array (Option Value)) (hsz : xs.size = ys.size) :
    MeetsIn prog w (B ⟨[.ref l, .ref b], []⟩)
      (fun A R s => s.heap.get? l = some { cls := .type "tuple", dict := dd, data := .seq xs n, slots := sl } ∧ s.heap.get? b = some { cls := .type "tuple", dict := dd2, data := .seq ys n2, slots := sl2 } ∧
        (∀ j (h1 : j < xs.size) (h2 : j < ys.size), EqF prog w A.in1 s xs[j] ys[j]) ∧ R (.ok (.ret (.bool r))) s) := by
  refine .of_wp fun A R s h => ?_
  obtain ⟨hp, g, d, tk, os⟩ := s; obtain ⟨hl, hb, he, h⟩ := h
  have f2 := AutoSeq1.sub_tuple_tuple
  rcases hB with ⟨rfl, rfl, rfl⟩ | ⟨rfl, rfl, rfl⟩ <;>
  · wp_walk using wpAny_loadPart' hl, wpAny_loadPart' hb, wpAny_forIn_list _ (fun rest b s' => b.1 = none ∧ s' = ⟨hp, g, d, tk, os⟩ ∧ ∃ i, rest = (xs.toList.zip ys.toList).drop i) _
    case turn =>
      rintro ⟨y, x⟩ rest b s' ⟨hb', rfl, i, hz⟩
      have hlt : i < (xs.toList.zip ys.toList).length := by
        rcases Nat.lt_or_ge i (xs.toList.zip ys.toList).length with h' | h'
        · exact h'
        · rw [List.drop_of_length_le h'] at hz; cases hz
      have hm : i < xs.size ∧ i < ys.size := by
        have : (xs.toList.zip ys.toList).length = min xs.size ys.size := by simp
        omega
      rw [List.drop_eq_getElem_cons hlt] at hz
      injection hz with hyx hrest
      have hy : y = xs[i]'hm.1 := by have := congrArg Prod.fst hyx; simpa using this
      have hx : x = ys[i]'hm.2 := by have := congrArg Prod.snd hyx; simpa using this
      subst hy hx
      refine wpAny_bind (he i hm.1 hm.2 _ _ ?_)
      wp_walk
      exact ⟨rfl, rfl, i + 1, hrest⟩
    case fin =>
      rintro ⟨b1, b2⟩ s' ⟨hb', rfl, i, hz⟩
      simp only at hb'
      subst hb'
      wp_walk
      exact ⟨_, rfl, by simpa [Builtin.Tuple.tupleCompareSizes, hsz] using h⟩
    case h => exact ⟨rfl, rfl, 0, rfl⟩

theorem rc_lists {l b : Addr} {xs ys : Array Value} (hl : s.heap.IsList l xs) (hb : s.heap.IsList b ys) (hsz : xs.size = ys.size) (hu : A.units < cLine)
    (he : ∀ j (h1 : j < xs.size) (h2 : j < ys.size), EqF prog w A.in1 s xs[j] ys[j]) : RcF prog w A s (.ref l) (.ref b) := fun op r hop E Q h => by
  obtain ⟨⟨cls, dd, data, sl⟩, ho, hc, n, hd⟩ := id hl
  obtain ⟨⟨cls2, dd2, data2, sl2⟩, ho2, hc2, n2, hd2⟩ := id hb
  simp only at hc hd hc2 hd2
  subst hc hd hc2 hd2
  rcases hop with ⟨rfl, rfl⟩ | ⟨rfl, rfl⟩
  · exact wpAny_richCompare_same_room (op := .Eq) hl.typeIs hb.typeIs PySem.F.slot_list_eq (call_meetsIn PySem.F.slot_list_eq hl.typeIs PySem.F.entry_list_eq (PySem.F.args_list_eq_2 _ _) (list_same l b xs ys n n2 dd dd2 sl sl2 hsz)
      ⟨ho, ho2, he, show Value.bool true ≠ Value.notImplemented ∧ Q (.bool true) s from ⟨(fun x => nomatch x), h⟩⟩) hu
  · exact wpAny_richCompare_same_room (op := .NotEq) hl.typeIs hb.typeIs PySem.F.slot_list_ne (call_meetsIn PySem.F.slot_list_ne hl.typeIs PySem.F.entry_list_ne (PySem.F.args_list_ne_2 _ _) (list_differ l b xs ys n n2 dd dd2 sl sl2 hsz)
      ⟨ho, ho2, he, show Value.bool false ≠ Value.notImplemented ∧ Q (.bool false) s from ⟨(fun x => nomatch x), h⟩⟩) hu
theorem rc_tuples {l b : Addr} {xs ys : Array Value} (hl : s.heap.IsTuple l xs) (hb : s.heap.IsTuple b ys) (hsz : xs.size = ys.size) (hu : A.units < cLine)
    (he : ∀ j (h1 : j < xs.size) (h2 : j < ys.size), EqF prog w A.in1 s xs[j] ys[j]) : RcF prog w A s (.ref l) (.ref b) := fun op r hop E Q h => by
  obtain ⟨⟨cls, dd, data, sl⟩, ho, hc, n, hd⟩ := id hl
  obtain ⟨⟨cls2, dd2, data2, sl2⟩, ho2, hc2, n2, hd2⟩ := id hb
  simp only at hc hd hc2 hd2
  subst hc hd hc2 hd2
  rcases hop with ⟨rfl, rfl⟩ | ⟨rfl, rfl⟩
  · exact wpAny_richCompare_same_room (op := .Eq) hl.typeIs hb.typeIs PySem.F.slot_tuple_eq (call_meetsIn PySem.F.slot_tuple_eq hl.typeIs PySem.F.entry_tuple_eq (PySem.F.args_tuple_eq_2 _ _) (tuple_same .Eq _ true (.inl ⟨rfl, rfl, rfl⟩) l b xs ys n n2 dd dd2 sl sl2 hsz)
      ⟨ho, ho2, he, show Value.bool true ≠ Value.notImplemented ∧ Q (.bool true) s from ⟨(fun x => nomatch x), h⟩⟩) hu
  · exact wpAny_richCompare_same_room (op := .NotEq) hl.typeIs hb.typeIs PySem.F.slot_tuple_ne (call_meetsIn PySem.F.slot_tuple_ne hl.typeIs PySem.F.entry_tuple_ne (PySem.F.args_tuple_ne_2 _ _) (tuple_same .NotEq _ false (.inr ⟨rfl, rfl, rfl⟩) l b xs ys n n2 dd dd2 sl sl2 hsz)
      ⟨ho, ho2, he, show Value.bool false ≠ Value.notImplemented ∧ Q (.bool false) s from ⟨(fun x => nomatch x), h⟩⟩) hu

/-- two dicts of which each pair of the one stands in the other -/
theorem same_pairs {nm : String} {a b : Addr} {ka kb : List (Key × Value)} {Q : Bool → Shared → Prop} {E : Value → Shared → Prop} (ha : (a == sysModules) = false) (hb : (b == sysModules) = false)
    (da : s.heap.DictOf (keyKind prog w) a ka) (db : s.heap.DictOf (keyKind prog w) b kb) (hlen : ka.length = kb.length)
    (hits : ∀ p ∈ ka, ∃ y, valueAt kb p.1 = some y ∧ EqF prog w A s p.2 y) (h : Q true s) : wpAny (model prog w) A (Builtin.Dict.samePairs nm a b) Q E s := by
  obtain ⟨oa, es, ep, hoa, _, hda, hka, hpa, _⟩ := da
  obtain ⟨ob, es', ep', hob, _, hdb, hkb, hpb, _⟩ := db
  have hla : ka.length = es.size := by rw [← hpa.length]; exact Array.length_toList
  have hlb : kb.length = es'.size := by rw [← hpb.length]; exact Array.length_toList
  have hfind : ∀ k, findBy (keyKind prog w).is es' k = valueAt kb k := fun k => by
    rw [← hpb.find k]
    clear hlb hpb hkb hdb hob
    obtain ⟨l⟩ := es'
    simp [findBy]
  have hsz : es.size = es'.size := by omega
  unfold Builtin.Dict.samePairs Builtin.Dict.showsAll
  rw [if_neg (show ¬ (a == sysModules) = true by rw [ha]; exact Bool.false_ne_true), if_neg (show ¬ (b == sysModules) = true by rw [hb]; exact Bool.false_ne_true)]
  refine wpAny_bind (wpAny_pure (wpAny_bind (wpAny_pure (wpAny_bind (wpAny_dictEntries hoa hda ?_)))))
  dsimp only
  refine wpAny_bind (wpAny_dictEntries hob hdb ?_)
  rw [if_neg (by rw [hsz]; simp)]
  refine wpAny_bind (wpAny_dictEpoch hoa hda (wpAny_bind ?_))
  rw [Std.Legacy.Range.forIn_eq_forIn_range']
  simp only [Std.Legacy.Range.size, Nat.sub_zero, Nat.add_sub_cancel, Nat.div_one]
  refine wpAny_forIn_list _ (fun rest q s' => s' = s ∧ q = (none, ()) ∧ ∃ i, rest = List.range' i (es.size - i) ∧ i ≤ es.size) _ ?_ ?_ _ _ ⟨rfl, rfl, 0, by simp, Nat.zero_le _⟩
  · rintro x rest q s' ⟨rfl, rfl, i, hr, hi⟩
    have hlt : i < es.size := by
      rcases Nat.lt_or_ge i es.size with h | h
      · exact h
      · rw [Nat.sub_eq_zero_of_le h] at hr; simp at hr
    obtain ⟨rfl, hrest⟩ : x = i ∧ rest = List.range' (i + 1) (es.size - (i + 1)) := by
      have e : es.size - i = (es.size - (i + 1)) + 1 := by omega
      rw [e, List.range'_succ] at hr
      injection hr with h1 h2
      exact ⟨h1, h2⟩
    refine wpAny_bind (wpAny_dictEntries hoa hda ?_)
    rw [Array.getElem?_eq_getElem hlt]
    have hlt' : x < ka.length := by rw [hla]; exact hlt
    obtain ⟨k, v, hkv⟩ : ∃ k v, ka[x] = (k, v) := ⟨_, _, rfl⟩
    obtain ⟨hkey, hval⟩ := hpa.get? (i := x) (e := es[x]) (k := k) (v := v) (by rw [Array.getElem?_toList]; exact Array.getElem?_eq_getElem hlt) (by rw [List.getElem?_eq_getElem hlt', hkv])
    obtain ⟨k', hk', hh⟩ := hka es[x] (Array.getElem_mem hlt)
    have ekk : k' = k := (keyKind prog w).inj _ _ _ hk' hkey
    rw [ekk] at hh
    obtain ⟨y, hy, he⟩ := hits (k, v) (hkv ▸ List.getElem_mem hlt')
    show wpAny _ _ (holding [es[x].key, es[x].val] _ >>= _) _ _ _
    rw [hh]
    refine wpAny_bind (wpAny_holding (wpAny_bind (wpAny_dictFind_of hkey hob hdb hkb ?_)))
    cases hj : es'.findIdx? fun e => (keyKind prog w).is k e.key with
    | none =>
      have hn : valueAt kb k = none := by rw [← hfind k, findBy_of_findIdx?, hj]
      have hy' : valueAt kb k = some y := hy
      rw [hn] at hy'; cases hy'
    | some j =>
      obtain ⟨hjlt, _, _⟩ := Array.findIdx?_eq_some_iff_getElem.mp hj
      have hv' : valueAt kb k = some es'[j].val := by
        rw [← hfind k, findBy_of_findIdx?, hj]
        simp [Array.getElem?_eq_getElem hjlt]
      refine wpAny_bind (wpAny_dictEntries hob hdb ?_)
      rw [Array.getElem?_eq_getElem hjlt]
      have ey : es'[j].val = y := Option.some.inj (hv'.symm.trans hy)
      have he' : EqF prog w A s' v y := he
      rw [← ey, ← hval] at he'
      refine wpAny_holding (he' _ _ ?_)
      show wpAny _ _ (if (!true) = true then _ else _) _ _ _
      rw [if_neg (by decide)]
      refine wpAny_bind (wpAny_dictEpoch hoa hda ?_)
      rw [if_neg (by simp)]
      exact wpAny_pure ⟨rfl, rfl, x + 1, hrest, hlt⟩
  · rintro q s' ⟨rfl, rfl, i, hr, hi⟩
    exact wpAny_pure h

theorem rc_dicts {a b : Addr} {ka kb : List (Key × Value)} (ha : (a == sysModules) = false) (hb : (b == sysModules) = false)
    (da : s.heap.DictOf (keyKind prog w) a ka) (db : s.heap.DictOf (keyKind prog w) b kb) (hu : A.units < cLine) (hlen : ka.length = kb.length)
    (hits : ∀ p ∈ ka, ∃ y, valueAt kb p.1 = some y ∧ EqF prog w A.in1 s p.2 y) : RcF prog w A s (.ref a) (.ref b) := fun op r hop E Q h => by
  rcases hop with ⟨rfl, rfl⟩ | ⟨rfl, rfl⟩
  · refine wpAny_richCompare_same_room (op := .Eq) da.typeIs db.typeIs PySem.F.slot_dict_eq (wpAny_call_entry PySem.F.slot_dict_eq da.typeIs PySem.F.entry_dict_eq ?_ (PySem.F.args_dict_eq_2 _ _)) hu
    show wpAny _ _ (Builtin.Dict.dictSlotArgs "__eq__" ⟨[.ref a, .ref b], []⟩ >>= _) _ _ s
    refine wpAny_bind ?_
    unfold Builtin.Dict.dictSlotArgs
    refine wpAny_bind (wpAny_notOrdered_dict da.typeIs ?_)
    show wpAny _ _ (pure (Value.ref a, Value.ref b)) _ _ s
    refine wpAny_pure (wpAny_bind (wpAny_isInstance (T := "dict") db.typeIs PySem.F.sub_dict_dict ?_))
    simp only [Bool.not_true, Bool.false_eq_true, if_false]
    refine wpAny_bind (wpAny_pure (wpAny_bind (wpAny_pure (wpAny_bind (same_pairs ha hb da db hlen hits ?_)))))
    exact wpAny_pure ⟨_, rfl, (fun x => nomatch x), by simpa using h⟩
  · refine wpAny_richCompare_same_room (op := .NotEq) da.typeIs db.typeIs PySem.F.slot_dict_ne (wpAny_call_entry PySem.F.slot_dict_ne da.typeIs PySem.F.entry_dict_ne ?_ (PySem.F.args_dict_ne_2 _ _)) hu
    show wpAny _ _ (Builtin.Dict.dictSlotArgs "__ne__" ⟨[.ref a, .ref b], []⟩ >>= _) _ _ s
    refine wpAny_bind ?_
    unfold Builtin.Dict.dictSlotArgs
    refine wpAny_bind (wpAny_notOrdered_dict da.typeIs ?_)
    show wpAny _ _ (pure (Value.ref a, Value.ref b)) _ _ s
    refine wpAny_pure (wpAny_bind (wpAny_isInstance (T := "dict") db.typeIs PySem.F.sub_dict_dict ?_))
    simp only [Bool.not_true, Bool.false_eq_true, if_false]
    refine wpAny_bind (wpAny_pure (wpAny_bind (wpAny_pure (wpAny_bind (same_pairs ha hb da db hlen hits ?_)))))
    exact wpAny_pure ⟨_, rfl, (fun x => nomatch x), by simpa using h⟩

/-- the items of two sequences are equal, under A -/
def Eqs (prog : Program) (w : World) (K : KM) (s : Shared) (A : Around) (ds es : List D) : Prop :=
  ∀ (i : Nat) (v y : Value) (d e : D), ds[i]? = some d → es[i]? = some e → Rep prog w K v d → Rep prog w K y e → EqF prog w A s v y

section
variable {K : KM} {ds es : List D} {vs us : List Value}
theorem eqs_items (he : Eqs prog w K s A ds es) (k4 : All prog w K vs ds) (l4 : All prog w K us es) (j : Nat) (h1 : j < vs.toArray.size) (h2 : j < us.toArray.size) : EqF prog w A s vs.toArray[j] us.toArray[j] := by
  simp only [List.size_toArray] at h1 h2
  have g1 : vs[j]? = some vs[j] := List.getElem?_eq_getElem h1
  have g2 : us[j]? = some us[j] := List.getElem?_eq_getElem h2
  obtain ⟨d, e1, r1⟩ := k4.getV g1
  obtain ⟨e, e2, r2⟩ := l4.getV g2
  simpa using he j _ _ d e e1 e2 r1 r2
theorem rcTuple (hK : InH K s.heap) (hl : ds.length = es.length) (hu : A.units < cLine) (he : Eqs prog w K s A.in1 ds es) {a b : Addr} {o o' : Obj} {n n' : Nat}
    (k1 : K a = some o) (k2 : o.cls = .type "tuple") (k3 : o.data = .seq vs.toArray n) (k4 : All prog w K vs ds) (l1 : K b = some o') (l2 : o'.cls = .type "tuple") (l3 : o'.data = .seq us.toArray n') (l4 : All prog w K us es) :
    RcF prog w A s (.ref a) (.ref b) :=
  rc_tuples ⟨o, hK _ _ k1, k2, n, k3⟩ ⟨o', hK _ _ l1, l2, n', l3⟩ (by simp only [List.size_toArray]; rw [k4.length, l4.length, hl]) hu (eqs_items he k4 l4)
theorem rcList (hK : InH K s.heap) (hl : ds.length = es.length) (hu : A.units < cLine) (he : Eqs prog w K s A.in1 ds es) {a b : Addr} {o o' : Obj} {n n' : Nat}
    (k1 : K a = some o) (k2 : o.cls = .type "list") (k3 : o.data = .seq vs.toArray n) (k4 : All prog w K vs ds) (l1 : K b = some o') (l2 : o'.cls = .type "list") (l3 : o'.data = .seq us.toArray n') (l4 : All prog w K us es) :
    RcF prog w A s (.ref a) (.ref b) :=
  rc_lists ⟨o, hK _ _ k1, k2, n, k3⟩ ⟨o', hK _ _ l1, l2, n', l3⟩ (by simp only [List.size_toArray]; rw [k4.length, l4.length, hl]) hu (eqs_items he k4 l4)
theorem rcDict (hK : InH K s.heap) {ks ks' : List Key} {g : Key → D} (hlen : ks.length = ks'.length) (hg : ∀ k d, lk ks ds k = some d → lk ks' es k = some (g k)) (hu : A.units < cLine)
    (he : ∀ k d, (k, d) ∈ ks.zip ds → ∀ v y, Rep prog w K v d → Rep prog w K y (g k) → EqF prog w A.in1 s v y) {a b : Addr} {o o' : Obj} {ka kb : List (Key × Value)}
    (k1 : K a = some o) (k2 : o.IsDictOf (keyKind prog w) ka) (k3 : (a == sysModules) = false) (k4 : ka.map (·.1) = ks) (k5 : ka.map (·.2) = vs) (k6 : All prog w K vs ds)
    (l1 : K b = some o') (l2 : o'.IsDictOf (keyKind prog w) kb) (l3 : (b == sysModules) = false) (l4 : kb.map (·.1) = ks') (l5 : kb.map (·.2) = us) (l6 : All prog w K us es) :
    RcF prog w A s (.ref a) (.ref b) := by
  subst k4 k5 l4 l5
  refine rc_dicts k3 l3 (Heap.dictOf_iff.mpr ⟨o, hK _ _ k1, k2⟩) (Heap.dictOf_iff.mpr ⟨o', hK _ _ l1, l2⟩) hu (by simpa using hlen) fun p hp => ?_
  obtain ⟨i, hi, rfl⟩ := List.mem_iff_getElem.mp hp
  have hn : (ka.map (·.1)).Nodup := let ⟨_, _, _, _, _, _, hn⟩ := k2; hn
  have g1 : (ka.map (·.2))[i]? = some ka[i].2 := by simp [hi]
  have g0 : (ka.map (·.1))[i]? = some ka[i].1 := by simp [hi]
  obtain ⟨d, e1, r1⟩ := k6.getV g1
  obtain ⟨y, hy, ry⟩ := lk_of_valueAt l6 (hg _ _ (lk_of_nodup hn g0 e1))
  exact ⟨y, hy, he _ _ (mem_zip_of_get g0 e1) _ _ r1 ry⟩
end

theorem D.depth_mem {ds : List D} {d : D} (h : d ∈ ds) : d.depth ≤ D.depths ds := by
  obtain ⟨i, hi⟩ := List.getElem?_of_mem h; exact D.depth_get hi

mutual
theorem DEq.at {K : KM} {s : Shared} (hK : InH K s.heap) : ∀ {d e : D}, DEq d e → ∀ (A : Around) (v y : Value), Rep prog w K v d → Rep prog w K y e → A.units + d.depth < cLine → EqF prog w A s v y
  | _, _, .none, A, v, y, h1, h2, _ => by cases h1; cases h2; exact .of_at (EqAt.same _)
  | _, _, .bool b, A, v, y, h1, h2, _ => by cases h1; cases h2; exact .of_at (EqAt.same _)
  | _, _, .int i, A, v, y, h1, h2, _ => by
    cases h1 with | int _ t => cases h2 with | int _ u => have := EqAt.int_int (A := A) (s := s) i t i u; exact .of_at (by simpa using this)
  | _, _, .str x, A, v, y, h1, h2, _ => by
    cases h1 with | str _ t => cases h2 with | str _ u => have := EqAt.str_str (A := A) (s := s) x t x u; exact .of_at (by simpa using this)
  | _, _, .bytes b, A, v, y, h1, h2, _ => by
    cases h1 with | bytes _ t => cases h2 with | bytes _ u => have := eq_bytes (A := A) (s := s) b.toArray b.toArray t u; exact .of_at (by simpa using this)
  | _, _, .tuple q, A, v, y, h1, h2, hu => by
    have he := fun i v y d e => DEqs.at hK q A.in1 (i := i) v y (d := d) (e := e)
    rw [D.depth] at hu
    cases h1 with
    | tuple k1 k2 k3 k4 => cases h2 with
      | tuple l1 l2 l3 l4 => exact .of_refs (rcTuple hK q.length (by omega) (fun i v y d e e1 e2 r1 r2 => he i v y d e e1 e2 r1 r2 (by have := D.depth_get e1; show A.units + 1 + _ < _; omega)) k1 k2 k3 k4 l1 l2 l3 l4)
  | _, _, .list q, A, v, y, h1, h2, hu => by
    have he := fun i v y d e => DEqs.at hK q A.in1 (i := i) v y (d := d) (e := e)
    rw [D.depth] at hu
    cases h1 with
    | list k1 k2 k3 k4 => cases h2 with
      | list l1 l2 l3 l4 => exact .of_refs (rcList hK q.length (by omega) (fun i v y d e e1 e2 r1 r2 => he i v y d e e1 e2 r1 r2 (by have := D.depth_get e1; show A.units + 1 + _ < _; omega)) k1 k2 k3 k4 l1 l2 l3 l4)
  | _, _, .dict g hlen hg hq, A, v, y, h1, h2, hu => by
    have he := fun k d hm v y => DEq.at hK (hq k d hm) A.in1 v y
    rw [D.depth] at hu
    cases h1 with
    | dict k1 k2 k3 k4 k5 k6 => cases h2 with
      | dict l1 l2 l3 l4 l5 l6 => exact .of_refs (rcDict hK hlen hg (by omega) (fun k d hm v y r1 r2 => he k d hm v y r1 r2 (by have := D.depth_mem (List.of_mem_zip hm).2; show A.units + 1 + _ < _; omega)) k1 k2 k3 k4 k5 k6 l1 l2 l3 l4 l5 l6)
theorem DEqs.at {K : KM} {s : Shared} (hK : InH K s.heap) : ∀ {ds es : List D}, DEqs ds es → ∀ (A : Around) {i : Nat} (v y : Value) {d e : D}, ds[i]? = some d → es[i]? = some e → Rep prog w K v d → Rep prog w K y e → A.units + d.depth < cLine → EqF prog w A s v y
  | _, _, .nil, A, i, v, y, d, e, h, _, _, _, _ => by simp at h
  | _, _, .cons q _, A, 0, v, y, d, e, e1, e2, r1, r2, hu => by simp at e1 e2; subst e1 e2; exact DEq.at hK q A v y r1 r2 hu
  | _, _, .cons _ q, A, i + 1, v, y, d, e, e1, e2, r1, r2, hu => by simp at e1 e2; exact DEqs.at hK q A v y e1 e2 r1 r2 hu
end

/-- a datum that is an object -/
def D.isRef : D → Bool
  | .tuple _ => true
  | .list _ => true
  | .dict _ _ => true
  | _ => false
theorem DEq.rc {K : KM} {s : Shared} (hK : InH K s.heap) {d e : D} (q : DEq d e) (hd : d.isRef = true) {A : Around} {v y : Value} (h1 : Rep prog w K v d) (h2 : Rep prog w K y e) (hu : A.units + d.depth < cLine) : RcF prog w A s v y := by
  cases q with
  | none => cases hd
  | bool => cases hd
  | int => cases hd
  | str => cases hd
  | bytes => cases hd
  | tuple q =>
    rw [D.depth] at hu
    cases h1 with
    | tuple k1 k2 k3 k4 => cases h2 with
      | tuple l1 l2 l3 l4 => exact rcTuple hK q.length (by omega) (fun i v y d e e1 e2 r1 r2 => DEqs.at hK q A.in1 v y e1 e2 r1 r2 (by have := D.depth_get e1; show A.units + 1 + _ < _; omega)) k1 k2 k3 k4 l1 l2 l3 l4
  | list q =>
    rw [D.depth] at hu
    cases h1 with
    | list k1 k2 k3 k4 => cases h2 with
      | list l1 l2 l3 l4 => exact rcList hK q.length (by omega) (fun i v y d e e1 e2 r1 r2 => DEqs.at hK q A.in1 v y e1 e2 r1 r2 (by have := D.depth_get e1; show A.units + 1 + _ < _; omega)) k1 k2 k3 k4 l1 l2 l3 l4
  | dict g hlen hg hq =>
    rw [D.depth] at hu
    cases h1 with
    | dict k1 k2 k3 k4 k5 k6 => cases h2 with
      | dict l1 l2 l3 l4 l5 l6 => exact rcDict hK hlen hg (by omega) (fun k d hm v y r1 r2 => DEq.at hK (hq k d hm) A.in1 v y r1 r2 (by have := D.depth_mem (List.of_mem_zip hm).2; show A.units + 1 + _ < _; omega)) k1 k2 k3 k4 k5 k6 l1 l2 l3 l4 l5 l6


mutual
def D.ok : D → Prop
  | .tuple ds => D.oks ds
  | .list ds => D.oks ds
  | .dict ks ds => ks.Nodup ∧ D.oks ds
  | .addr _ => False
  | _ => True
def D.oks : List D → Prop
  | [] => True
  | d :: ds => d.ok ∧ D.oks ds
end
end
theorem getD_lk {ks : List Key} {ds : List D} (hn : ks.Nodup) {k : Key} {d : D} (hm : (k, d) ∈ ks.zip ds) : lk ks ds k = some d := by
  obtain ⟨i, hi⟩ := List.getElem?_of_mem hm
  rw [List.getElem?_zip_eq_some] at hi
  exact lk_of_nodup hn hi.1 hi.2
mutual
theorem DEq.refl : ∀ (d : D), d.ok → DEq d d
  | .none, _ => .none
  | .bool b, _ => .bool b
  | .int i, _ => .int i
  | .str x, _ => .str x
  | .bytes b, _ => .bytes b
  | .addr a, h => absurd h (by rw [D.ok]; exact id)
  | .tuple ds, h => .tuple (DEqs.refl ds (by rw [D.ok] at h; exact h))
  | .list ds, h => .list (DEqs.refl ds (by rw [D.ok] at h; exact h))
  | .dict ks ds, h => by
    rw [D.ok] at h
    have q := DEqs.refl ds h.2
    refine .dict (fun k => (lk ks ds k).getD .none) rfl (fun k d e => by rw [e]; rfl) fun k d hm => ?_
    rw [getD_lk h.1 hm]
    obtain ⟨i, hi⟩ := List.getElem?_of_mem (List.of_mem_zip hm).2
    exact q.get hi hi
theorem DEqs.refl : ∀ (ds : List D), D.oks ds → DEqs ds ds
  | [], _ => .nil
  | d :: ds, h => by rw [D.oks] at h; exact .cons (DEq.refl d h.1) (DEqs.refl ds h.2)
end
end Mine
open PySem.Calls
namespace Mine

/-! ## states -/
/-- every old object stands as it stood -/
def Kp (s s' : Shared) : Prop := Keeps s s'
theorem Kp.refl (s : Shared) : Kp s s := ⟨s.heap, s.toks, rfl, fun _ _ e => e⟩
theorem Kp.trans {s s' s'' : Shared} (h : Kp s s') (h' : Kp s' s'') : Kp s s'' := by
  obtain ⟨h1, t1, rfl, k1⟩ := h
  obtain ⟨h2, t2, rfl, k2⟩ := h'
  exact ⟨h2, t2, rfl, fun b o e => k2 b o (k1 b o e)⟩
theorem Kp.get {s s' : Shared} (h : Kp s s') {b : Addr} {o : Obj} (e : s.heap.get? b = some o) : s'.heap.get? b = some o := by
  obtain ⟨h1, t1, rfl, k1⟩ := h; exact k1 b o e
theorem Kp.none {s s' : Shared} (h : Kp s s') {b : Addr} (e : s'.heap.get? b = none) : s.heap.get? b = none := by
  cases q : s.heap.get? b with
  | none => rfl
  | some o => rw [h.get q] at e; cases e
theorem Kp.of {s : Shared} {h : Heap} (t : Nat) (k : ∀ b o, s.heap.get? b = some o → h.get? b = some o) : Kp s { s with heap := h, toks := t } := ⟨h, t, rfl, k⟩
theorem Kp.toks (s : Shared) (t : Nat) : Kp s { s with toks := t } := ⟨s.heap, t, rfl, fun _ _ e => e⟩

/-- from K, s to K', s': nothing old has changed, what is new in K' is new in the heap -/
structure Next (K : KM) (s : Shared) (K' : KM) (s' : Shared) : Prop where
  keeps : Kp s s'
  sub : Sub K K'
  inH : InH K' s'.heap
  fresh : ∀ a o, K' a = some o → K a = none → s.heap.get? a = none

theorem Next.refl {K : KM} {s : Shared} (h : InH K s.heap) : Next K s K s := ⟨.refl s, .refl K, h, fun a o h1 h2 => by rw [h1] at h2; cases h2⟩
theorem Next.trans {K K' K'' : KM} {s s' s'' : Shared} (n : Next K s K' s') (n' : Next K' s' K'' s'') : Next K s K'' s'' :=
  ⟨n.keeps.trans n'.keeps, n.sub.trans n'.sub, n'.inH, fun a o h1 h2 => by
    cases q : K' a with
    | none => exact n.keeps.none (n'.fresh a o h1 q)
    | some o' => exact n.fresh a o' q h2⟩
theorem Next.keep {K : KM} {s s' : Shared} (h : InH K s.heap) (k : Kp s s') : Next K s K s' := ⟨k, .refl K, fun a o e => k.get (h a o e), fun a o h1 h2 => by rw [h1] at h2; cases h2⟩
theorem Next.toks {K : KM} {s : Shared} (h : InH K s.heap) (t : Nat) : Next K s K { s with toks := t } := .keep h (.toks s t)

/-- K with one object more -/
def KM.set (K : KM) (a : Addr) (o : Obj) : KM := fun b => if b = a then some o else K b
theorem KM.set_self (K : KM) (a : Addr) (o : Obj) : K.set a o a = some o := by simp [KM.set]
theorem KM.sub_set {K : KM} {a : Addr} {o : Obj} (h : K a = none) : Sub K (K.set a o) := fun b o' e => by
  by_cases q : b = a
  · subst q; rw [h] at e; cases e
  · simp [KM.set, q, e]
theorem KM.in_set {K : KM} {h : Heap} {a : Addr} {o : Obj} (hK : InH K h) (ha : h.get? a = some o) : InH (K.set a o) h := fun b o' e => by
  by_cases q : b = a
  · subst q; simp [KM.set] at e; subst e; exact ha
  · simp [KM.set, q] at e; exact hK b o' e
theorem none_of_fresh {K : KM} {h : Heap} {a : Addr} (hK : InH K h) (ha : h.get? a = none) : K a = none := by
  cases q : K a with
  | none => rfl
  | some o => rw [hK a o q] at ha; cases ha
theorem get_size (h : Heap) : h.get? h.objs.size = none := by
  cases q : h.get? h.objs.size with
  | none => rfl
  | some o => exact absurd (Heap.lt_size q) (Nat.lt_irrefl _)
/-- an object that a step has made (fresh ahead of it) goes into K -/
theorem Next.made {K : KM} {s s' : Shared} {a : Addr} {o : Obj} (h : InH K s.heap) (k : Kp s s') (hf : s.heap.get? a = none) (ha : s'.heap.get? a = some o) : Next K s (K.set a o) s' :=
  ⟨k, KM.sub_set (none_of_fresh h hf), KM.in_set (fun b o' e => k.get (h b o' e)) ha, fun b o' h1 h2 => by
    by_cases q : b = a
    · subst q; exact hf
    · simp [KM.set, q] at h1; rw [h1] at h2; cases h2⟩

/-- the frame: a function's, its names those of the module -/
structure EnvOk (env : Env) : Prop where
  kind : env.scope.kind = .function
  glob : env.globals = mainGlobals
  built : env.builtins = builtinsNs

/-- name x of the frame holds v -/
inductive VarAt (env : Env) (h : Heap) (x : Str) (v : Value) : Prop
  | loc (m : Str → Option Value) : env.kindOf x = some .local → h.Ns env.locals m → m x = some v → VarAt env h x v
  | cell (c : Addr) : env.kindOf x = some .cell → env.cells.lookup x = some c → h.IsCell c (some v) → VarAt env h x v
  | free (c : Addr) : env.kindOf x = some .free → env.cells.lookup x = some c → h.IsCell c (some v) → (x == ("__classdict__" : Str)) = false → VarAt env h x v
  | glob (m : Str → Option Value) : env.kindOf x = some .globalImplicit → h.Ns mainGlobals m → m x = some v → VarAt env h x v
theorem VarAt.keeps {env : Env} {s s' : Shared} {x : Str} {v : Value} (h : VarAt env s.heap x v) (k : Kp s s') : VarAt env s'.heap x v := by
  cases h with
  | loc m h1 h2 h3 => exact .loc m h1 (h2.keeps fun b o e => k.get e) h3
  | cell c h1 h2 h3 => exact .cell c h1 h2 (h3.keeps fun b o e => k.get e)
  | free c h1 h2 h3 h4 => exact .free c h1 h2 (h3.keeps fun b o e => k.get e) h4
  | glob m h1 h2 h3 => exact .glob m h1 (h2.keeps fun b o e => k.get e) h3

section
variable {prog : Program} {w : World}
/-- an object of the heap whose parts are of K -/
inductive TopAt (prog : Program) (w : World) (K : KM) (h : Heap) (a : Addr) : D → Prop
  | tuple {o : Obj} {vs : List Value} {n : Nat} {ds : List D} : h.get? a = some o → o.cls = .type "tuple" → o.data = .seq vs.toArray n → All prog w K vs ds → ds.length ≤ lim → TopAt prog w K h a (.tuple ds)
  | list {o : Obj} {vs : List Value} {n : Nat} {ds : List D} : h.get? a = some o → o.cls = .type "list" → o.data = .seq vs.toArray n → All prog w K vs ds → ds.length ≤ lim → (hp : o.dict = Option.none ∧ o.slots = #[] := by exact ⟨rfl, rfl⟩) → TopAt prog w K h a (.list ds)
  | dict {o : Obj} {kvs : List (Key × Value)} {ks : List Key} {vs : List Value} {ds : List D} : h.get? a = some o → o.IsDictOf (keyKind prog w) kvs → (a == sysModules) = false → kvs.map (·.1) = ks → kvs.map (·.2) = vs → All prog w K vs ds → ds.length ≤ lim → (hp : o.dict = Option.none := by rfl) → TopAt prog w K h a (.dict ks ds)
theorem TopAt.next {K K' : KM} {s s' : Shared} {a : Addr} {d : D} (t : TopAt prog w K s.heap a d) (n : Next K s K' s') : TopAt prog w K' s'.heap a d := by
  cases t with
  | tuple h1 h2 h3 h4 h5 => exact .tuple (n.keeps.get h1) h2 h3 (h4.mono n.sub) h5
  | list h1 h2 h3 h4 h5 h6 => exact .list (n.keeps.get h1) h2 h3 (h4.mono n.sub) h5 h6
  | dict h1 h2 h3 h4 h5 h6 h7 h8 => exact .dict (n.keeps.get h1) h2 h3 h4 h5 (h6.mono n.sub) h7 h8
theorem Rep.top {K : KM} {s : Shared} (hK : InH K s.heap) {v : Value} {d : D} (r : Rep prog w K v d) (hd : d.isRef = true) : ∃ a, v = .ref a ∧ TopAt prog w K s.heap a d := by
  cases r with
  | none => cases hd
  | bool => cases hd
  | int => cases hd
  | str => cases hd
  | bytes => cases hd
  | addr => cases hd
  | tuple h1 h2 h3 h4 h5 => exact ⟨_, rfl, .tuple (hK _ _ h1) h2 h3 h4 h5⟩
  | list h1 h2 h3 h4 h5 h6 => exact ⟨_, rfl, .list (hK _ _ h1) h2 h3 h4 h5 h6⟩
  | dict h1 h2 h3 h4 h5 h6 h7 h8 => exact ⟨_, rfl, .dict (hK _ _ h1) h2 h3 h4 h5 h6 h7 h8⟩
/-- sealed: from now on of K -/
theorem TopAt.seal {K : KM} {s : Shared} (hK : InH K s.heap) {a : Addr} {d : D} (t : TopAt prog w K s.heap a d) (hn : K a = none) : ∃ o, s.heap.get? a = some o ∧ Rep prog w (K.set a o) (.ref a) d := by
  cases t with
  | tuple h1 h2 h3 h4 h5 => exact ⟨_, h1, .tuple (KM.set_self _ _ _) h2 h3 (h4.mono (KM.sub_set hn)) h5⟩
  | list h1 h2 h3 h4 h5 h6 => exact ⟨_, h1, .list (KM.set_self _ _ _) h2 h3 (h4.mono (KM.sub_set hn)) h5 h6⟩
  | dict h1 h2 h3 h4 h5 h6 h7 h8 => exact ⟨_, h1, .dict (KM.set_self _ _ _) h2 h3 h4 h5 (h6.mono (KM.sub_set hn)) h7 h8⟩

/-! ## the text's own defs, and what the module's top has made -/
def defAt (i : Nat) : Stmt := (PySem.Challenge.pw_fr0006_01.main.body.drop i).headD (.Pass default)
def bodyAt (i : Nat) : List Stmt := match defAt i with | .FunctionDef _ _ b _ _ _ _ _ _ _ => b | _ => []
def paramsAt (i : Nat) : Arguments := match defAt i with | .FunctionDef _ a _ _ _ _ _ _ _ _ => a | _ => default
def scopeAt (i : Nat) : Scope := match defAt i with | .FunctionDef _ _ _ _ _ _ s _ _ _ => s | _ => default
/-- the built-ins that the text names -/
def biTab : List (Str × Value) := [("len", .builtin "len"), ("isinstance", .builtin "isinstance"), ("iter", .builtin "iter"), ("range", .type "range"), ("enumerate", .type "enumerate"), ("dict", .type "dict"), ("zip", .type "zip"), ("map", .type "map"), ("int", .type "int"), ("list", .type "list"), ("bytes", .type "bytes")]
/-- the text's defs, by their place in the module -/
def fnTab : List (Str × Nat) := [("str_if_bytes", 1), ("pairs_to_dict", 3), ("parse_stream_list", 4), ("parse_xclaim", 5), ("parse_xautoclaim", 6), ("parse_xinfo_stream", 7), ("parse_xread", 8), ("parse_xread_resp3", 9), ("parse_xread_unified", 10), ("parse_xread_resp3_to_resp2_legacy", 11), ("parse_xpending", 12), ("parse_xpending_range", 13), ("_law_entry", 19)]
/-- a function object is the def at place i -/
structure FnIs (B : Heap) (fd : FuncData) (i : Nat) : Prop where
  params : fd.params = paramsAt i
  body : fd.body = .stmts (bodyAt i)
  scope : fd.scope = scopeAt i
  glob : fd.globals = mainGlobals
  built : fd.builtins = builtinsNs
  closure : fd.closure = []
  kwdef : fd.kwdefaults = .none
  code : B.CodeRec fd.code fd.qualname
  dflt : (fd.params.defaults = [] ∧ fd.defaults = .none) ∨ (i = 3 ∧ ∃ a o, fd.defaults = .ref a ∧ B.get? a = some o ∧ o.cls = .type "tuple" ∧ ∃ n, o.data = .seq #[.bool false, .bool false] n)
/-- the text's own words (bytes), and its tuples -/
def idsD : List D := [.bytes [48, 45, 48], .bytes [53, 45, 49], .bytes [53, 45, 50], .bytes [49, 55, 45, 48], .bytes [52, 48, 48, 45, 51]]
def wordsD : List D := [.bytes [102], .bytes [], .bytes [103], .bytes [255], .bytes [102, 32, 103]]
def streamsD : List D := [.bytes [115], .bytes [116, 123, 115, 125]]
def readersD : List D := [.tuple [.bytes [110, 97, 109, 101], .str "name", .bytes [111, 110, 101]], .tuple [.bytes [105, 100, 108, 101], .str "idle", .int 4],
  .tuple [.bytes [105, 110, 97, 99, 116, 105, 118, 101], .str "inactive", .none], .tuple [.bytes [112, 101, 110, 100, 105, 110, 103], .str "pending", .list []]]
def glTab : List (Str × D) := [("_law_ids", .tuple idsD), ("_law_words", .tuple wordsD), ("_law_streams", .tuple streamsD), ("_law_readers", .tuple readersD)]
structure BaseOk (prog : Program) (w : World) (B : Heap) (KB : KM) : Prop where
  glob : ∃ mg mb, B.Ns mainGlobals mg ∧ B.Ns builtinsNs mb ∧ (∀ p ∈ biTab, mg p.1 = none ∧ mb p.1 = some p.2) ∧
    (∀ p ∈ fnTab, ∃ a o fd, mg p.1 = some (.ref a) ∧ B.get? a = some o ∧ o.data = .func fd ∧ FnIs B fd p.2) ∧
    (∀ p ∈ glTab, ∃ v, mg p.1 = some v ∧ Rep prog w KB v p.2)
  nolimit : B.NoLimit
  all : ∀ b o, B.get? b = some o → KB b = some o
  digits : ∃ mc, B.Ns cStatics mc ∧ mc "sys.int_max_str_digits" = none

/-! ## the context of an expression -/
structure Cx where
  A : Around
  env : Env
  ρ : List (Str × D)
  O : List (Str × Addr × D)
  B : Heap
  KB : KM

structure Ok (prog : Program) (w : World) (c : Cx) (K : KM) (s : Shared) : Prop where
  env : EnvOk c.env
  mod : BaseOk prog w c.B c.KB
  hand : c.A.handled = none
  kb : Sub c.KB K
  base : ∀ b o, c.B.get? b = some o → s.heap.get? b = some o
  inH : InH K s.heap
  vars : ∀ x d, c.ρ.lookup x = some d → ∃ v, VarAt c.env s.heap x v ∧ Rep prog w K v d
  own : ∀ x a d, c.O.lookup x = some (a, d) → VarAt c.env s.heap x (.ref a) ∧ K a = none ∧ TopAt prog w K s.heap a d
theorem Ok.next {c : Cx} {K K' : KM} {s s' : Shared} (h : Ok prog w c K s) (n : Next K s K' s') : Ok prog w c K' s' where
  env := h.env
  mod := h.mod
  hand := h.hand
  kb := h.kb.trans n.sub
  base := fun b o e => n.keeps.get (h.base b o e)
  inH := n.inH
  vars := fun x d e => let ⟨v, h1, h2⟩ := h.vars x d e; ⟨v, h1.keeps n.keeps, h2.mono n.sub⟩
  own := fun x a d e => by
    obtain ⟨h1, h2, h3⟩ := h.own x a d e
    refine ⟨h1.keeps n.keeps, ?_, h3.next n⟩
    cases q : K' a with
    | none => rfl
    | some o =>
      have := n.fresh a o q h2
      cases h3 with
      | tuple h => rw [h] at this; cases this
      | list h => rw [h] at this; cases this
      | dict h => rw [h] at this; cases this

theorem Ok.notMods {c : Cx} {K : KM} {s : Shared} (h : Ok prog w c K s) {a : Addr} (ha : s.heap.objs.size ≤ a) : (a == sysModules) = false := by
  obtain ⟨mg, mb, ⟨o, es, ep, ho, _⟩, _⟩ := h.mod.glob
  have h1 : (3 : Nat) < s.heap.objs.size := Heap.lt_size (h.base _ _ ho)
  have h2 : a ≠ sysModules := by
    intro e
    have h5 : @Eq Nat a 1 := e
    have h6 : @LE.le Nat _ s.heap.objs.size a := ha
    omega
  simpa using h2

/-- t gives a value of datum d -/
def Gives (prog : Program) (w : World) (c : Cx) (t : Sem Value) (d : D) : Prop :=
  ∀ (K : KM) (s : Shared) (Q : Value → Shared → Prop) (E : Value → Shared → Prop), Ok prog w c K s → (∀ K' v s', Next K s K' s' → Rep prog w K' v d → Q v s') → wpAny (model prog w) c.A t Q E s
/-- expression e gives d -/
abbrev Ev (prog : Program) (w : World) (c : Cx) (e : Expr) (d : D) : Prop := Gives prog w c (eval e c.env) d
/-- e gives an object that stands in the heap, its parts in K -/
def EvR (prog : Program) (w : World) (c : Cx) (e : Expr) (d : D) : Prop :=
  ∀ (K : KM) (s : Shared) (Q : Value → Shared → Prop) (E : Value → Shared → Prop), Ok prog w c K s → (∀ K' a s', Next K s K' s' → TopAt prog w K' s'.heap a d → Q (.ref a) s') → wpAny (model prog w) c.A (eval e c.env) Q E s
/-- e gives a new object that nothing holds yet -/
def EvN (prog : Program) (w : World) (c : Cx) (e : Expr) (d : D) : Prop :=
  ∀ (K : KM) (s : Shared) (Q : Value → Shared → Prop) (E : Value → Shared → Prop), Ok prog w c K s → (∀ K' a s', Next K s K' s' → s.heap.get? a = none → K' a = none → TopAt prog w K' s'.heap a d → Q (.ref a) s') → wpAny (model prog w) c.A (eval e c.env) Q E s
/-- a test gives b -/
def EvT (prog : Program) (w : World) (c : Cx) (e : Expr) (b : Bool) : Prop :=
  ∀ (K : KM) (s : Shared) (Q : Bool → Shared → Prop) (E : Value → Shared → Prop), Ok prog w c K s → (∀ K' s', Next K s K' s' → Q b s') → wpAny (model prog w) c.A (PySem.isTrue e c.env (eval e c.env)) Q E s
/-- items of a display or arguments -/
def EvL (prog : Program) (w : World) (c : Cx) (es : List Expr) (ds : List D) : Prop :=
  ∀ (pos : Pos) (K : KM) (s : Shared) (Q : List Value → Shared → Prop) (E : Value → Shared → Prop), Ok prog w c K s → (∀ K' vs s', Next K s K' s' → All prog w K' vs ds → Q vs s') → wpAny (model prog w) c.A (spliced (backTo pos (starEach es c.env))) Q E s

variable {c : Cx}
theorem EvR.of {e : Expr} {d : D} (h : Ev prog w c e d) (hd : d.isRef = true) : EvR prog w c e d := fun K s Q E ok q =>
  h K s Q E ok fun K' v s' n r => by
    obtain ⟨a, rfl, t⟩ := r.top n.inH hd
    exact q K' a s' n t
theorem EvR.ofN {e : Expr} {d : D} (h : EvN prog w c e d) : EvR prog w c e d := fun K s Q E ok q => h K s Q E ok fun K' a s' n _ _ t => q K' a s' n t
theorem Next.seal {K K' : KM} {s s' : Shared} {a : Addr} {o : Obj} (n : Next K s K' s') (hf : s.heap.get? a = none) (hn : K' a = none) (ho : s'.heap.get? a = some o) : Next K s (K'.set a o) s' :=
  ⟨n.keeps, n.sub.trans (KM.sub_set hn), KM.in_set n.inH ho, fun b o' h1 h2 => by
    by_cases q : b = a
    · subst q; exact hf
    · simp [KM.set, q] at h1; exact n.fresh b o' h1 h2⟩
theorem Ev.ofN {e : Expr} {d : D} (h : EvN prog w c e d) : Ev prog w c e d := fun K s Q E ok q => h K s Q E ok fun K' a s' n hf hn t => by
  obtain ⟨o, ho, r⟩ := t.seal n.inH hn
  exact q _ _ _ (n.seal hf hn ho) r

/-! ## constants, names -/
theorem gives_here {t : Sem Value} {d : D} (h : ∀ (s : Shared) (Q : Value → Shared → Prop) (E : Value → Shared → Prop), (∀ v tk, (∀ K, Rep prog w K v d) → Q v { s with toks := tk }) → wpAny (model prog w) c.A t Q E s) : Gives prog w c t d :=
  fun K s Q E ok q => h s Q E fun v tk r => q K v _ (.toks ok.inH tk) (r K)
theorem ev_none {k : Nat} {pos : Pos} : Ev prog w c (.Constant .none k pos) .none := gives_here fun s Q E h => wpAny_pure (h .none s.toks fun _ => .none)
theorem ev_bool {b : Bool} {k : Nat} {pos : Pos} : Ev prog w c (.Constant (.bool b) k pos) (.bool b) := gives_here fun s Q E h => wpAny_pure (h (.bool b) s.toks fun _ => .bool b)
theorem ev_int {i : Int} {k : Nat} {pos : Pos} : Ev prog w c (.Constant (.int i) k pos) (.int i) := gives_here fun s Q E h => wpAny_mkInt (h _ _ fun _ => .int i _)
theorem ev_str {x : Str} {k : Nat} {pos : Pos} : Ev prog w c (.Constant (.str x) k pos) (.str x) := gives_here fun s Q E h => wpAny_mkText (h _ _ fun _ => .str x _)
theorem ev_bytes {b : List UInt8} {k : Nat} {pos : Pos} : Ev prog w c (.Constant (.bytes b) k pos) (.bytes b) := gives_here fun s Q E h => wpAny_bind (wpAny_fresh (wpAny_pure (h _ _ fun _ => .bytes b _)))

theorem load_var {A : Around} {env : Env} {s : Shared} {x : Str} {v : Value} {Q : Value → Shared → Prop} {E : Value → Shared → Prop} (he : EnvOk env) (hv : VarAt env s.heap x v) (h : Q v s) : wpAny (model prog w) A (loadName env x) Q E s := by
  cases hv with
  | loc m h1 h2 h3 => exact wpAny_loadName_local he.kind h1 h2 h3 h
  | cell a h1 h2 h3 => exact wpAny_loadName_cell he.kind h1 h2 h3 h
  | free a h1 h2 h3 h4 => exact wpAny_loadName_free he.kind h1 h2 h3 h h4
  | glob m h1 h2 h3 =>
    unfold loadName
    simp only [Env.blockKind, he.kind, h1, ScopeKind.isAnnotationScope, Bool.false_and, Bool.false_eq_true, if_false]
    exact loadGlobal_global (by rw [he.glob]; exact h2) h3 h
theorem ev_name {x : Str} {d : D} {pos : Pos} (h : c.ρ.lookup x = some d) (hd : (x == ("__debug__" : Str)) = false := by decide) : Ev prog w c (.Name x pos) d := fun K s Q E ok q => by
  obtain ⟨v, h1, h2⟩ := ok.vars x d h
  exact wpAny_Name (load_var ok.env h1 (q K v s (.refl ok.inH) h2)) hd
theorem ev_glob {x : Str} {d : D} {pos : Pos} (h : (x, d) ∈ glTab) (hk : c.env.kindOf x = some .globalImplicit := by rfl) (hd : (x == ("__debug__" : Str)) = false := by decide) : Ev prog w c (.Name x pos) d := fun K s Q E ok q => by
  obtain ⟨mg, mb, hg, _, _, _, hl⟩ := ok.mod.glob
  obtain ⟨v, h1, h2⟩ := hl _ h
  exact wpAny_Name (load_var ok.env (.glob mg hk (hg.keeps ok.base) h1) (q K v s (.refl ok.inH) (h2.mono ok.kb))) hd
theorem evr_own {x : Str} {a : Addr} {d : D} {pos : Pos} (h : c.O.lookup x = some (a, d)) (hd : (x == ("__debug__" : Str)) = false := by decide) : EvR prog w c (.Name x pos) d := fun K s Q E ok q => by
  obtain ⟨h1, _, h3⟩ := ok.own x a d h
  exact wpAny_Name (load_var ok.env h1 (q K a s (.refl ok.inH) h3)) hd

/-! ## displays -/
theorem evL_nil : EvL prog w c [] [] := fun pos K s Q E ok q => spliced_nil (q K [] s (.refl ok.inH) .nil)
theorem evL_cons {e : Expr} {es : List Expr} {d : D} {ds : List D} (h : Ev prog w c e d) (hs : EvL prog w c es ds) (he : starEach (e :: es) c.env = (false, eval e c.env) :: starEach es c.env := by rfl) : EvL prog w c (e :: es) (d :: ds) := fun pos K s Q E ok q => by
  rw [he]
  exact spliced_cons (h K s _ E ok fun K' v s' n r => hs pos K' s' _ E (ok.next n) fun K'' vs s'' n' r' => q K'' _ s'' (n.trans n') (.cons (r.mono n'.sub) r'))
theorem made_top {K : KM} {s : Shared} {T : String} {data : Data} {Q : Value → Shared → Prop} {E : Value → Shared → Prop} {A : Around} (h : Q (.ref s.heap.objs.size) { s with heap := s.heap.push { cls := .type T, data := data } }) (hsz : sizeOk data) :
    wpAny (model prog w) A (newObj (.type T) data) Q E s := wpAny_newObj_type h hsz
theorem lim_size {n : Nat} (h : n ≤ lim) : n ≤ sizeLine := Nat.le_trans h (by decide)
theorem kp_push (s : Shared) (o : Obj) : Kp s { s with heap := s.heap.push o } := .of s.toks fun _ _ e => Heap.get?_push_of_some _ e
theorem evn_seq (tup : Bool) {vs : List Value} {ds : List D} {K : KM} {s : Shared} {Q : Value → Shared → Prop} {E : Value → Shared → Prop} {A : Around} (hK : InH K s.heap) (h : All prog w K vs ds) (hz : ds.length ≤ lim)
    (q : ∀ a s', Next K s K s' → s.heap.get? a = none → K a = none → TopAt prog w K s'.heap a (if tup then .tuple ds else .list ds) → Q (.ref a) s') : wpAny (model prog w) A (if tup then newTuple vs else newList vs) Q E s := by
  have hl := h.length
  have hs : vs.toArray.size ≤ sizeLine := by rw [List.size_toArray, hl]; exact lim_size hz
  have hn := none_of_fresh hK (get_size s.heap)
  cases tup with
  | false => exact wpAny_newObj_type (q _ _ (.keep hK (kp_push s _)) (get_size _) hn (.list (Heap.get?_push_size _ rfl) rfl rfl h hz)) hs
  | true => exact wpAny_newObj_type (q _ _ (.keep hK (kp_push s _)) (get_size _) hn (.tuple (Heap.get?_push_size _ rfl) rfl rfl h hz)) hs
theorem evn_list {es : List Expr} {ds : List D} {pos : Pos} (h : EvL prog w c es ds) (hz : ds.length ≤ lim) : EvN prog w c (.List es pos) (.list ds) := fun K s Q E ok q =>
  List_ (h pos K s _ E ok fun K' vs s' n r => evn_seq false n.inH r hz fun a s'' n' h1 h2 t => q K' a s'' (n.trans n') (n.keeps.none h1) h2 t)
theorem evn_tuple {es : List Expr} {ds : List D} {k : Nat} {pos : Pos} (h : EvL prog w c es ds) (hz : ds.length ≤ lim) : EvN prog w c (.Tuple es k pos) (.tuple ds) := fun K s Q E ok q =>
  Tuple_ (h pos K s _ E ok fun K' vs s' n r => evn_seq true n.inH r hz fun a s'' n' h1 h2 t => q K' a s'' (n.trans n') (n.keeps.none h1) h2 t)
end
end Mine
namespace Mine
section
variable {prog : Program} {w : World} {c : Cx}

/-! ## operators -/
theorem ev_bin {l r : Expr} {op : Operator} {pos : Pos} {a b d : D} (hl : Ev prog w c l a) (hr : Ev prog w c r b)
    (h : ∀ (K : KM) (s : Shared) (u v : Value) (Q : Value → Shared → Prop) (E : Value → Shared → Prop), Ok prog w c K s → Rep prog w K u a → Rep prog w K v b → (∀ K' v s', Next K s K' s' → Rep prog w K' v d → Q v s') → wpAny (model prog w) c.A (binaryOp op u v) Q E s) :
    Ev prog w c (.BinOp l op r pos) d := fun K s Q E ok q =>
  wpAny_BinOp (hl K s _ E ok fun K1 u s1 n1 r1 => hr K1 s1 _ E (ok.next n1) fun K2 v s2 n2 r2 =>
    h K2 s2 u v Q E ((ok.next n1).next n2) (r1.mono n2.sub) r2 fun K3 x s3 n3 r3 => q K3 x s3 ((n1.trans n2).trans n3) r3)
theorem ev_add {l r : Expr} {pos : Pos} {a b : Int} (hl : Ev prog w c l (.int a)) (hr : Ev prog w c r (.int b)) : Ev prog w c (.BinOp l .Add r pos) (.int (a + b)) :=
  ev_bin hl hr fun K s u v Q E ok ru rv q => by cases ru; cases rv; exact add_int (q K _ _ (.toks ok.inH _) (.int _ _))
theorem ev_sub {l r : Expr} {pos : Pos} {a b : Int} (hl : Ev prog w c l (.int a)) (hr : Ev prog w c r (.int b)) : Ev prog w c (.BinOp l .Sub r pos) (.int (a - b)) :=
  ev_bin hl hr fun K s u v Q E ok ru rv q => by cases ru; cases rv; exact sub_int (q K _ _ (.toks ok.inH _) (.int _ _))
theorem ev_mul {l r : Expr} {pos : Pos} {a b : Int} (hl : Ev prog w c l (.int a)) (hr : Ev prog w c r (.int b)) (hm : IntMulOk a b) : Ev prog w c (.BinOp l .Mult r pos) (.int (a * b)) :=
  ev_bin hl hr fun K s u v Q E ok ru rv q => by cases ru; cases rv; exact mul_int (q K _ _ (.toks ok.inH _) (.int _ _)) hm
theorem ev_div {l r : Expr} {pos : Pos} {a b : Int} (hl : Ev prog w c l (.int a)) (hr : Ev prog w c r (.int b)) (h0 : b ≠ 0) (hp : Builtin.divisionGoesByPylong a b = false) : Ev prog w c (.BinOp l .FloorDiv r pos) (.int (a.fdiv b)) :=
  ev_bin hl hr fun K s u v Q E ok ru rv q => by cases ru; cases rv; exact floordiv_int h0 (q K _ _ (.toks ok.inH _) (.int _ _)) (.inl hp)
theorem ev_mod {l r : Expr} {pos : Pos} {a b : Int} (hl : Ev prog w c l (.int a)) (hr : Ev prog w c r (.int b)) (h0 : b ≠ 0) : Ev prog w c (.BinOp l .Mod r pos) (.int (a.fmod b)) :=
  ev_bin hl hr fun K s u v Q E ok ru rv q => by cases ru; cases rv; exact mod_int' h0 (q K _ _ (.toks ok.inH _) (.int _ _))
theorem ev_pow {l r : Expr} {pos : Pos} {a n : Int} (hl : Ev prog w c l (.int a)) (hr : Ev prog w c r (.int n)) (h0 : 0 ≤ n) (hb : ↑(Builtin.Int.intBits a) * n ≤ 2 ^ 27) : Ev prog w c (.BinOp l .Pow r pos) (.int (a ^ n.toNat)) :=
  ev_bin hl hr fun K s u v Q E ok ru rv q => by cases ru; cases rv; exact pow_int h0 hb (q K _ _ (.toks ok.inH _) (.int _ _))
theorem ev_neg {e : Expr} {pos : Pos} {a : Int} (h : Ev prog w c e (.int a)) : Ev prog w c (.UnaryOp .USub e pos) (.int (-a)) := fun K s Q E ok q => by
  rw [arm_eval_UnaryOp]
  refine wpAny_bind (h K s _ E ok fun K1 u s1 n1 r1 => wpAny_bind (wpAny_standAt (wpAny_holding ?_)))
  cases r1
  exact neg_int (q K1 _ _ (n1.trans (.toks n1.inH _)) (.int _ _))
theorem ev_cat {l r : Expr} {pos : Pos} {a b : List D} (hl : Ev prog w c l (.list a)) (hr : Ev prog w c r (.list b)) (hz : (a ++ b).length ≤ lim) : Ev prog w c (.BinOp l .Add r pos) (.list (a ++ b)) :=
  ev_bin hl hr fun K s u v Q E ok ru rv q => by
    cases ru with
    | @list x o vs n _ h1 h2 h3 h4 h5 =>
      cases rv with
      | @list y o' us m _ k1 k2 k3 k4 k5 =>
        obtain ⟨_, dd, _, sl⟩ := o
        obtain ⟨_, dd2, _, sl2⟩ := o'
        simp only at h2 h3 k2 k3
        subst h2 h3 k2 k3
        have g1 := ok.inH _ _ h1
        have g2 := ok.inH _ _ k1
        have hz' : vs.length + us.length ≤ sizeLine := by rw [h4.length, k4.length, ← List.length_append]; exact lim_size hz
        have e : vs.toArray ++ us.toArray = (vs ++ us).toArray := by simp
        refine concat_meets ⟨_, g1, rfl⟩ ⟨_, g2, rfl⟩ noFill_list_add seq_list_add PySem.F.slot_list_add PySem.F.entry_list_add (PySem.F.args_list_add_2 _ _) (list_addW x y vs.toArray us.toArray n m dd dd2 sl sl2 (by simpa using hz')) ⟨g1, g2, ?_⟩
        rw [e]
        exact q _ _ _ (.made ok.inH (kp_push s _) (get_size _) (Heap.get?_push_size _ rfl)) (.list (KM.set_self _ _ _) rfl rfl ((h4.append k4).mono (KM.sub_set (none_of_fresh ok.inH (get_size _)))) hz)
theorem All.replicate {K : KM} {v : Value} {d : D} (h : Rep prog w K v d) : ∀ n : Nat, All prog w K (List.replicate n v) (List.replicate n d)
  | 0 => .nil
  | n + 1 => .cons h (All.replicate h n)
theorem All.flat {K : KM} {vs : List Value} {ds : List D} (h : All prog w K vs ds) : ∀ n : Nat, All prog w K (List.replicate n vs).flatten (List.replicate n ds).flatten
  | 0 => .nil
  | n + 1 => by rw [List.replicate_succ, List.replicate_succ, List.flatten_cons, List.flatten_cons]; exact h.append (All.flat h n)
theorem ev_rep {l r : Expr} {pos : Pos} {a : List D} {x : Int} (hl : Ev prog w c l (.list a)) (hr : Ev prog w c r (.int x)) (h0 : 0 ≤ x) (h1 : x < 64) (hz : ((List.replicate x.toNat a).flatten).length ≤ lim) (ha : a.length ≤ 1000) : Ev prog w c (.BinOp l .Mult r pos) (.list (List.replicate x.toNat a).flatten) :=
  ev_bin hl hr fun K s u v Q E ok ru rv q => by
    cases rv with
    | int _ t =>
    cases ru with
    | @list y o vs n _ k1 k2 k3 k4 k5 =>
      obtain ⟨_, dd, _, sl⟩ := o
      simp only at k2 k3
      subst k2 k3
      have ho := ok.inH _ _ k1
      have hlen := k4.length
      have hb : vs.length * x.toNat ≤ 64000 := by
        have e1 : vs.length ≤ 1000 := by omega
        have e2 : x.toNat ≤ 64 := by omega
        calc vs.length * x.toNat ≤ 1000 * 64 := Nat.mul_le_mul e1 e2
          _ = 64000 := rfl
      have hsz' : vs.toArray.size * x.toNat ≤ 64000 := by simpa using hb
      refine wpAny_binaryOp_repeat_ref (T := "list") (U := "int") (by decide) ⟨_, ho, rfl⟩ (fun s' => typeIs_int s' x t) noFill_list_mul PySem.F.fills_int_mul PySem.F.slot_int_rmul repeat_list PySem.F.slot_int_index.lookup
        (call_meets PySem.F.slot_int_rmul (typeIs_int s x t) PySem.F.entry_int_rmul (PySem.F.args_int_rmul_2 _ _) (lm_int_rmul_list_any x t y vs.toArray n dd sl)
          ⟨ho, rfl, ⟨_, ho, rfl⟩, call_meets PySem.F.slot_list_mul ⟨_, ho, rfl⟩ PySem.F.entry_list_mul (PySem.F.args_list_mul_2 _ _)
            (lm_list_mul_any y vs.toArray n dd sl x t (by simp [Builtin.List.listFitsIndex]; omega) (by omega) (by simp [Builtin.List.listTooLong, sizeLine]; omega))
            ⟨ho, ?_⟩⟩)
      rw [listMul_foldl_if]
      exact q _ _ _ (.made ok.inH (kp_push s _) (get_size _) (Heap.get?_push_size _ rfl)) (.list (KM.set_self _ _ _) rfl rfl ((k4.flat _).mono (KM.sub_set (none_of_fresh ok.inH (get_size _)))) hz)

/-! ## tests -/
theorem evT_of {e : Expr} {d : D} {b : Bool} (h : Ev prog w c e d)
    (ht : ∀ (K : KM) (s : Shared) (v : Value) (Q : Bool → Shared → Prop) (E : Value → Shared → Prop), Ok prog w c K s → Rep prog w K v d → (∀ s', Kp s s' → Q b s') → wpAny (model prog w) c.A (truthy v) Q E s)
    (hs : PySem.isTrue e c.env (eval e c.env) = (do let v ← eval e c.env; standAt e.pos; holding [v] (truthy v)) := by rfl) : EvT prog w c e b := fun K s Q E ok q => by
  rw [hs]
  exact wpAny_bind (h K s _ E ok fun K1 v s1 n1 r1 => wpAny_bind (wpAny_standAt (wpAny_holding (ht K1 s1 v Q E (ok.next n1) r1 fun s2 k => q K1 s2 (n1.trans (.keep n1.inH k))))))
theorem lim_small {n : Nat} (h : n ≤ lim) : (n : Int) < 2 ^ 63 := by have : lim = 4096 := rfl; omega
/-- truth of a container -/
def D.truth : D → Bool
  | .list ds => !ds.isEmpty
  | .tuple ds => !ds.isEmpty
  | .dict _ ds => !ds.isEmpty
  | _ => false
theorem truthy_top {A : Around} {K : KM} {s : Shared} {a : Addr} {d : D} {Q : Bool → Shared → Prop} {E : Value → Shared → Prop} (t : TopAt prog w K s.heap a d)
    (q : ∀ s', Kp s s' → Q d.truth s') : wpAny (model prog w) A (truthy (.ref a)) Q E s := by
  cases t with
  | @tuple o vs n ds h1 h2 h3 h4 h5 =>
    have e : vs.toArray.isEmpty = ds.isEmpty := by cases h4 <;> simp
    exact truthy_tuple (items := vs.toArray) ⟨o, h1, h2, n, h3⟩ (by rw [List.size_toArray, h4.length]; exact lim_small h5) (e ▸ q _ (.toks s _))
  | @list o vs n ds h1 h2 h3 h4 h5 =>
    have e : vs.toArray.isEmpty = ds.isEmpty := by cases h4 <;> simp
    exact wpAny_truthy_list (items := vs.toArray) ⟨o, h1, h2, n, h3⟩ (by rw [List.size_toArray, h4.length]; exact lim_small h5) (e ▸ q _ (.toks s _))
  | @dict o kvs ks vs ds h1 h2 h3 h4 h5 h6 h7 =>
    subst h4 h5
    have e : kvs.isEmpty = ds.isEmpty := by have := h6.length; cases kvs <;> cases ds <;> simp_all
    have hl : kvs.length = ds.length := by have := h6.length; simpa using this
    exact wpAny_truthy_dict h3 (Heap.dictOf_iff.mpr ⟨o, h1, h2⟩) (by rw [hl]; exact lim_small h7) (e ▸ q _ (.toks s _))
theorem evT_bool {e : Expr} {b : Bool} (h : Ev prog w c e (.bool b)) (hs : PySem.isTrue e c.env (eval e c.env) = (do let v ← eval e c.env; standAt e.pos; holding [v] (truthy v)) := by rfl) : EvT prog w c e b :=
  evT_of h (fun K s v Q E ok r q => by cases r; exact wpAny_truthy_bool (q s (.refl s))) hs
theorem evT_none {e : Expr} (h : Ev prog w c e .none) (hs : PySem.isTrue e c.env (eval e c.env) = (do let v ← eval e c.env; standAt e.pos; holding [v] (truthy v)) := by rfl) : EvT prog w c e false :=
  evT_of h (fun K s v Q E ok r q => by cases r; exact wpAny_pure (q s (.refl s))) hs
theorem evT_ref {e : Expr} {d : D} {b : Bool} (h : EvR prog w c e d) (hb : b = d.truth)
    (hs : PySem.isTrue e c.env (eval e c.env) = (do let v ← eval e c.env; standAt e.pos; holding [v] (truthy v)) := by rfl) : EvT prog w c e b := fun K s Q E ok q => by
  rw [hs]
  subst hb
  exact wpAny_bind (h K s _ E ok fun K1 a s1 n1 t1 => wpAny_bind (wpAny_standAt (wpAny_holding (truthy_top t1 fun s2 k => q K1 s2 (n1.trans (.keep n1.inH k))))))
theorem evT_not {e : Expr} {b : Bool} {pos : Pos} (h : EvT prog w c e b) : EvT prog w c (.UnaryOp .Not e pos) (!b) := fun K s Q E ok q => by
  rw [arm_isTrue_UnaryOp]
  exact wpAny_bind (h K s _ E ok fun K1 s1 n1 => wpAny_pure (q K1 s1 n1))
/-- all tests of an «and» | «or» that are looked at -/
def EvA (prog : Program) (w : World) (c : Cx) (op : PySem.BoolOp) (es : List Expr) (b : Bool) : Prop :=
  ∀ (K : KM) (s : Shared) (Q : Bool → Shared → Prop) (E : Value → Shared → Prop), Ok prog w c K s → (∀ K' s', Next K s K' s' → Q b s') → wpAny (model prog w) c.A (allTrue op es c.env) Q E s
theorem evA_nil_and : EvA prog w c .And [] true := fun K s Q E ok q => by rw [arm_allTrue_nil]; exact wpAny_pure (q K s (.refl ok.inH))
theorem evA_nil_or : EvA prog w c .Or [] false := fun K s Q E ok q => by rw [arm_allTrue_nil]; exact wpAny_pure (q K s (.refl ok.inH))
theorem evA_and_true {e : Expr} {es : List Expr} {b : Bool} (h : EvT prog w c e true) (hr : EvA prog w c .And es b) : EvA prog w c .And (e :: es) b := fun K s Q E ok q => by
  rw [arm_allTrue_cons]
  exact wpAny_bind (h K s _ E ok fun K1 s1 n1 => hr K1 s1 Q E (ok.next n1) fun K2 s2 n2 => q K2 s2 (n1.trans n2))
theorem evA_and_false {e : Expr} {es : List Expr} (h : EvT prog w c e false) : EvA prog w c .And (e :: es) false := fun K s Q E ok q => by
  rw [arm_allTrue_cons]
  exact wpAny_bind (h K s _ E ok fun K1 s1 n1 => wpAny_pure (q K1 s1 n1))
theorem evA_or_false {e : Expr} {es : List Expr} {b : Bool} (h : EvT prog w c e false) (hr : EvA prog w c .Or es b) : EvA prog w c .Or (e :: es) b := fun K s Q E ok q => by
  rw [arm_allTrue_cons]
  exact wpAny_bind (h K s _ E ok fun K1 s1 n1 => hr K1 s1 Q E (ok.next n1) fun K2 s2 n2 => q K2 s2 (n1.trans n2))
theorem evA_or_true {e : Expr} {es : List Expr} (h : EvT prog w c e true) : EvA prog w c .Or (e :: es) true := fun K s Q E ok q => by
  rw [arm_allTrue_cons]
  exact wpAny_bind (h K s _ E ok fun K1 s1 n1 => wpAny_pure (q K1 s1 n1))
theorem evT_bools {op : PySem.BoolOp} {es : List Expr} {b : Bool} {pos : Pos} (h : EvA prog w c op es b) : EvT prog w c (.BoolOp op es pos) b := fun K s Q E ok q => by
  rw [arm_isTrue_BoolOp]; exact h K s Q E ok q

/-! ## comparisons -/
/-- a comparison of two data -/
def EvC (prog : Program) (w : World) (c : Cx) (op : CmpOp) (a b : D) (r : Bool) : Prop :=
  ∀ (K : KM) (s : Shared) (u v : Value) (Q : Value → Shared → Prop) (E : Value → Shared → Prop), Ok prog w c K s → Rep prog w K u a → Rep prog w K v b → (∀ s', Kp s s' → Q (.bool r) s') → wpAny (model prog w) c.A (compareOp op u v) Q E s
theorem ev_cmp {l r : Expr} {op : CmpOp} {pos : Pos} {a b : D} {x : Bool} (hl : Ev prog w c l a) (hr : Ev prog w c r b) (h : EvC prog w c op a b x) (hm : behindInMarks op r = false := by rfl) : Ev prog w c (.Compare l [op] [r] pos) (.bool x) := fun K s Q E ok q =>
  wpAny_Compare1 (hl K s _ E ok fun K1 u s1 n1 r1 => hr K1 s1 _ E (ok.next n1) fun K2 v s2 n2 r2 => h K2 s2 u v Q E ((ok.next n1).next n2) (r1.mono n2.sub) r2 fun s3 k => q K2 _ s3 ((n1.trans n2).trans (.keep n2.inH k)) (.bool x)) hm
theorem evT_cmp {l r : Expr} {op : CmpOp} {pos : Pos} {a b : D} {x : Bool} (hl : Ev prog w c l a) (hr : Ev prog w c r b) (h : EvC prog w c op a b x) (hm : behindInMarks op r = false := by rfl) : EvT prog w c (.Compare l [op] [r] pos) x := fun K s Q E ok q =>
  wpAny_isTrue_Compare1 (hl K s _ E ok fun K1 u s1 n1 r1 => hr K1 s1 _ E (ok.next n1) fun K2 v s2 n2 r2 => h K2 s2 u v _ E ((ok.next n1).next n2) (r1.mono n2.sub) r2 fun s3 k => wpAny_truthy_bool (q K2 s3 ((n1.trans n2).trans (.keep n2.inH k)))) hm
theorem evC_eqInt {a b : Int} : EvC prog w c .Eq (.int a) (.int b) (a == b) := fun K s u v Q E ok ru rv q => by cases ru; cases rv; exact eq_int (q s (.refl s))
theorem evC_gtInt {a b : Int} : EvC prog w c .Gt (.int a) (.int b) (decide (a > b)) := fun K s u v Q E ok ru rv q => by cases ru; cases rv; exact gt_int (q s (.refl s))
theorem evC_is {d : D} {b : Bool} (hb : b = (match d with | .none => true | _ => false)) : EvC prog w c .Is d .none b := fun K s u v Q E ok ru rv q => by
  cases rv
  subst hb
  cases ru <;> exact is_none (q s (.refl s))
theorem evC_isNot {d : D} {b : Bool} (hb : b = (match d with | .none => false | _ => true)) : EvC prog w c .IsNot d .none b := fun K s u v Q E ok ru rv q => by
  cases rv
  subst hb
  cases ru <;> exact isNot_none (q s (.refl s))
theorem evC_ne {a b : D} (h : DEq a b) (hr : a.isRef = true) (hu : c.A.units + a.depth < cLine) : EvC prog w c .NotEq a b false := fun K s u v Q E ok ru rv q =>
  h.rc ok.inH hr ru rv hu .NotEq false (.inr ⟨rfl, rfl⟩) E Q (q s (.refl s))
theorem evC_eq {a b : D} (h : DEq a b) (hr : a.isRef = true) (hu : c.A.units + a.depth < cLine) : EvC prog w c .Eq a b true := fun K s u v Q E ok ru rv q =>
  h.rc ok.inH hr ru rv hu .Eq true (.inl ⟨rfl, rfl⟩) E Q (q s (.refl s))
theorem valueAt_none : ∀ {kvs : List (Key × Value)} {k : Key}, k ∉ kvs.map (·.1) → valueAt kvs k = none
  | [], _, _ => rfl
  | (k', v) :: r, k, h => by
    simp only [List.map_cons, List.mem_cons, not_or] at h
    have hne : ¬ k' = k := fun e => h.1 e.symm
    have := valueAt_none h.2
    simpa [valueAt, List.find?_cons, hne] using this
theorem valueAt_some : ∀ {kvs : List (Key × Value)} {k : Key}, k ∈ kvs.map (·.1) → (valueAt kvs k).isSome = true
  | (k', v) :: r, k, h => by
    by_cases e : k' = k
    · simp [valueAt, e]
    · simp only [List.map_cons, List.mem_cons] at h
      have := valueAt_some (h.resolve_left fun q => e q.symm)
      simpa [valueAt, List.find?_cons, e] using this
theorem evC_in {x : Str} {ks : List Key} {ds : List D} {b : Bool} (hb : b = decide (Key.s x ∈ ks)) : EvC prog w c .In (.str x) (.dict ks ds) b := fun K s u v Q E ok ru rv q => by
  cases ru with
  | str _ t =>
  cases rv with
  | @dict a o kvs _ vs _ h1 h2 h3 h4 h5 h6 h7 =>
    subst h4 h5
    refine wpAny_in_of (knd := keyKind prog w) (k := .s x) (strKind_is prog w x t) h3 (Heap.dictOf_iff.mpr ⟨o, ok.inH _ _ h1, h2⟩).mapOf ?_
    have e : (valueAt kvs (.s x)).isSome = b := by
      subst hb
      by_cases hm : Key.s x ∈ kvs.map (·.1)
      · rw [valueAt_some hm, decide_eq_true hm]
      · rw [valueAt_none hm, decide_eq_false hm]; rfl
    rw [e]
    exact q _ (.toks s _)
end
end Mine
namespace Mine
section
variable {prog : Program} {w : World} {c : Cx}

/-! ## items -/
theorem getL {A : Around} {K : KM} {s : Shared} {a : Addr} {ds : List D} {k : Int} {t : Tok} {j : Nat} {d : D} {Q : Value → Shared → Prop} {E : Value → Shared → Prop} (h : TopAt prog w K s.heap a (.list ds))
    (hj : seqIndex? k ds.length = some j) (hd : ds[j]? = some d) (q : ∀ v, Rep prog w K v d → Q v s) : wpAny (model prog w) A (getItem (.ref a) (.int k t)) Q E s := by
  cases h with
  | @list o vs n _ h1 h2 h3 h4 h5 =>
    obtain ⟨v, hv, r⟩ := h4.get hd
    have hlen := h4.length
    have hl : s.heap.IsList a vs.toArray := ⟨o, h1, h2, n, h3⟩
    have h5' : ds.length ≤ 4096 := h5
    unfold seqIndex? at hj
    by_cases h0 : k < 0
    · simp only [h0, if_true] at hj
      split at hj
      · rename_i hc
        simp only [Bool.and_eq_true, decide_eq_true_eq] at hc
        have e : (k + ↑vs.toArray.size).toNat = j := by rw [List.size_toArray, hlen]; exact Option.some.inj hj
        exact wpAny_getItem_list_neg hl h0 (by rw [List.size_toArray, hlen]; omega) (by omega) (by rw [e]; simpa using hv) (q v r)
      · cases hj
    · simp only [h0, if_false] at hj
      split at hj
      · rename_i hc
        simp only [Bool.and_eq_true, decide_eq_true_eq] at hc
        have e : k.toNat = j := Option.some.inj hj
        exact wpAny_getItem_list hl (by omega) (by omega) (by rw [e]; simpa using hv) (q v r)
      · cases hj
theorem getT {A : Around} {K : KM} {s : Shared} {a : Addr} {ds : List D} {k : Int} {t : Tok} {j : Nat} {d : D} {Q : Value → Shared → Prop} {E : Value → Shared → Prop} (h : TopAt prog w K s.heap a (.tuple ds))
    (hj : seqIndex? k ds.length = some j) (hd : ds[j]? = some d) (q : ∀ v, Rep prog w K v d → Q v s) : wpAny (model prog w) A (getItem (.ref a) (.int k t)) Q E s := by
  cases h with
  | @tuple o vs n _ h1 h2 h3 h4 h5 =>
    obtain ⟨v, hv, r⟩ := h4.get hd
    have hlen := h4.length
    have h5' : ds.length ≤ 4096 := h5
    have hk : -(2 ^ 63) ≤ k ∧ k < 2 ^ 63 := by
      unfold seqIndex? at hj
      by_cases h0 : k < 0 <;> simp only [h0, if_true, if_false] at hj <;> split at hj
      · rename_i hc; simp only [Bool.and_eq_true, decide_eq_true_eq] at hc; omega
      · cases hj
      · rename_i hc; simp only [Bool.and_eq_true, decide_eq_true_eq] at hc; omega
      · cases hj
    exact getItem_tuple (items := vs.toArray) ⟨o, h1, h2, n, h3⟩ hk.1 hk.2 (by rw [List.size_toArray, hlen]; exact hj) (by simpa using hv) (q v r)
theorem getD {A : Around} {K : KM} {s : Shared} {a : Addr} {ks : List Key} {ds : List D} {k : Key} {kv : Value} {d : D} {Q : Value → Shared → Prop} {E : Value → Shared → Prop} (h : TopAt prog w K s.heap a (.dict ks ds))
    (hk : (keyKind prog w).is k kv = true) (hd : lk ks ds k = some d) (q : ∀ v, Rep prog w K v d → Q v { s with toks := s.toks + 1 }) : wpAny (model prog w) A (getItem (.ref a) kv) Q E s := by
  cases h with
  | @dict o kvs _ vs _ h1 h2 h3 h4 h5 h6 h7 =>
    subst h4 h5
    obtain ⟨v, hv, r⟩ := lk_of_valueAt h6 hd
    exact wpAny_getItem_of hk (Heap.dictOf_iff.mpr ⟨o, h1, h2⟩).mapOf hv (q v r)
theorem top_type {K : KM} {s : Shared} {a : Addr} {d : D} (h : TopAt prog w K s.heap a d) : ∃ T id, s.TypeIs (.ref a) T ∧ typeLookup (.type T) "__getitem__" = pure (some (.builtin id)) := by
  cases h with
  | tuple h1 h2 => exact ⟨"tuple", _, ⟨_, h1, h2⟩, PySem.F.slot_tuple_getitem.lookup⟩
  | list h1 h2 => exact ⟨"list", _, ⟨_, h1, h2⟩, slot_list_getitem.lookup⟩
  | dict h1 h2 => exact ⟨"dict", _, (Heap.dictOf_iff.mpr ⟨_, h1, h2⟩).typeIs, slot_dict_getitem.lookup⟩
/-- e[i], i no slice -/
theorem ev_item {e i : Expr} {pos : Pos} {d k x : D} (he : EvR prog w c e d) (hi : Ev prog w c i k)
    (hg : ∀ (K : KM) (s : Shared) (a : Addr) (v : Value) (Q : Value → Shared → Prop) (E : Value → Shared → Prop), InH K s.heap → TopAt prog w K s.heap a d → Rep prog w K v k → (∀ v s', Kp s s' → Rep prog w K v x → Q v s') → wpAny (model prog w) c.A (getItem (.ref a) v) Q E s)
    (hs : ∀ o v, subscripted i false o v = operate [o, v] (getItem o v) := by intro _ _; rfl) : Ev prog w c (.Subscript e i pos) x := fun K s Q E ok q =>
  Subscript_ (he K s _ E ok fun K1 a s1 n1 t1 => hi K1 s1 _ E (ok.next n1) fun K2 v s2 n2 r2 => by
    obtain ⟨T, id, hT, hl⟩ := top_type (t1.next n2)
    exact tail_any hT hl (hg K2 s2 a v Q E n2.inH (t1.next n2) r2 fun y s3 k3 r3 => q K2 y s3 ((n1.trans n2).trans (.keep n2.inH k3)) r3) (hs _ _))
theorem ev_subL {e i : Expr} {pos : Pos} {ds : List D} {k : Int} {j : Nat} {x : D} (he : EvR prog w c e (.list ds)) (hi : Ev prog w c i (.int k)) (hj : seqIndex? k ds.length = some j) (hd : ds[j]? = some x)
    (hs : ∀ o v, subscripted i false o v = operate [o, v] (getItem o v) := by intro _ _; rfl) : Ev prog w c (.Subscript e i pos) x :=
  ev_item he hi (fun K s a v Q E hK t r q => by cases r; exact getL t hj hd fun v r => q v s (.refl s) r) hs
theorem ev_subT {e i : Expr} {pos : Pos} {ds : List D} {k : Int} {j : Nat} {x : D} (he : EvR prog w c e (.tuple ds)) (hi : Ev prog w c i (.int k)) (hj : seqIndex? k ds.length = some j) (hd : ds[j]? = some x)
    (hs : ∀ o v, subscripted i false o v = operate [o, v] (getItem o v) := by intro _ _; rfl) : Ev prog w c (.Subscript e i pos) x :=
  ev_item he hi (fun K s a v Q E hK t r q => by cases r; exact getT t hj hd fun v r => q v s (.refl s) r) hs
theorem ev_subD {e i : Expr} {pos : Pos} {ks : List Key} {ds : List D} {k : Str} {x : D} (he : EvR prog w c e (.dict ks ds)) (hi : Ev prog w c i (.str k)) (hd : lk ks ds (.s k) = some x)
    (hs : ∀ o v, subscripted i false o v = operate [o, v] (getItem o v) := by intro _ _; rfl) : Ev prog w c (.Subscript e i pos) x :=
  ev_item he hi (fun K s a v Q E hK t r q => by cases r with | str _ tk => exact getD (k := .s k) t (strKind_is prog w k tk) hd fun v r => q v _ (.toks s _) r) hs

/-! ## slices -/
def pickD (ds : List D) (lo hi st : Option Int) : List D :=
  (sliceRange (sliceBounds lo hi st ds.length).1 (sliceBounds lo hi st ds.length).2.1 (sliceBounds lo hi st ds.length).2.2).filterMap (ds[·]?)
theorem All.pick {K : KM} {vs : List Value} {ds : List D} (h : All prog w K vs ds) : ∀ is : List Nat, All prog w K (is.filterMap (vs[·]?)) (is.filterMap (ds[·]?))
  | [] => .nil
  | i :: is => by
    have ih := All.pick h is
    have hl := h.length
    cases hv : vs[i]? with
    | none =>
      have hd : ds[i]? = none := by rw [List.getElem?_eq_none_iff] at hv ⊢; omega
      simp only [List.filterMap_cons, hv, hd]; exact ih
    | some v =>
      obtain ⟨d, hd, r⟩ := h.getV hv
      simp only [List.filterMap_cons, hv, hd]; exact .cons r ih
theorem pickD_len (ds : List D) (lo hi st : Option Int) : (pickD ds lo hi st).length ≤ ds.length := by
  have h := slicePick_size_le ((List.replicate ds.length Value.none).toArray) lo hi st
  unfold slicePick at h
  simp only [List.size_toArray, List.length_replicate] at h
  refine Nat.le_trans (Nat.le_of_eq ?_) h
  unfold pickD
  generalize sliceRange _ _ _ = is
  induction is with
  | nil => rfl
  | cons i is ih =>
    simp only [List.filterMap_cons]
    by_cases hi : i < ds.length
    · simp [hi, ih]
    · simp [hi, ih]
/-- a bound of a slice -/
def EvP (prog : Program) (w : World) (c : Cx) (e : Option Expr) (b : Option Int) : Prop :=
  ∀ (K : KM) (s : Shared) (Q : Value → Shared → Prop) (E : Value → Shared → Prop), Ok prog w c K s → (∀ K' v s', Next K s K' s' → IsPart v b → Q v s') → wpAny (model prog w) c.A (evalPart e c.env) Q E s
theorem evP_none : EvP prog w c none none := fun K s Q E ok q => by rw [evalPart_none]; exact wpAny_pure (q K _ s (.refl ok.inH) .none)
theorem evP_some {e : Expr} {i : Int} (h : Ev prog w c e (.int i)) : EvP prog w c (some e) (some i) := fun K s Q E ok q => by
  show wpAny _ _ (eval e c.env) Q E s
  exact h K s Q E ok fun K1 v s1 n1 r1 => by cases r1; exact q K1 _ s1 n1 (.int _ _)
theorem evn_slice {e : Expr} {lo hi st : Option Expr} {p pos : Pos} {ds : List D} {x y z : Option Int} (he : EvR prog w c e (.list ds)) (hlo : EvP prog w c lo x) (hhi : EvP prog w c hi y) (hst : EvP prog w c st z) (h0 : z ≠ some 0)
    (hs : ∀ o v, ∃ ops, subscripted (.Slice lo hi st p) false o v = operate ops (getItem o v) := by intro _ _; exact ⟨_, rfl⟩) : EvN prog w c (.Subscript e (.Slice lo hi st p) pos) (.list (pickD ds x y z)) := fun K s Q E ok q => by
  refine Subscript_ (he K s _ E ok fun K1 a s1 n1 t1 => wpAny_Slice (hlo K1 s1 _ E (ok.next n1) fun K2 u s2 n2 p2 => hhi K2 s2 _ E ((ok.next n1).next n2) fun K3 v s3 n3 p3 => hst K3 s3 _ E (((ok.next n1).next n2).next n3) fun K4 r s4 n4 p4 => ?_))
  have t4 := ((t1.next n2).next n3).next n4
  have n5 : Next K4 s4 K4 { s4 with heap := s4.heap.push { cls := .type "slice", data := .fields #[u, v, r] } } := .keep n4.inH (kp_push s4 _)
  obtain ⟨ops, hops⟩ := hs (.ref a) (.ref s4.heap.objs.size)
  have t5 := t4.next n5
  cases t5 with
  | @list o vs n _ h1 h2 h3 h4 h5 =>
    have hl : ({ s4 with heap := s4.heap.push { cls := .type "slice", data := .fields #[u, v, r] } } : Shared).heap.IsList a vs.toArray := ⟨o, h1, h2, n, h3⟩
    have hlen := h4.length
    refine tail_any hl.typeIs slot_list_getitem.lookup (wpAny_getItem_list_slice hl (Heap.IsSliceOf.new ..) p2 p3 p4 h0 ?_ (by rw [List.size_toArray, hlen]; exact lim_size h5)) hops
    have nn := (((n1.trans n2).trans n3).trans n4).trans n5
    have hpick : slicePick vs.toArray x y z = (List.filterMap (vs[·]?) (sliceRange (sliceBounds x y z ds.length).1 (sliceBounds x y z ds.length).2.1 (sliceBounds x y z ds.length).2.2)).toArray := by
      unfold slicePick
      simp only [List.size_toArray, hlen, List.getElem?_toArray]
    rw [hpick]
    exact q K4 _ _ (nn.trans (.keep n5.inH (kp_push _ _))) (nn.keeps.none (get_size _)) (none_of_fresh n5.inH (get_size _))
      (.list (Heap.get?_push_size _ rfl) rfl rfl (h4.pick _) (Nat.le_trans (pickD_len ds x y z) h5))

theorem adjust_upto (b n : Nat) : Builtin.Slice.sliceAdjust none (some (b : Int)) 1 (n : Int) = (0, ((min b n : Nat) : Int)) := by
  unfold Builtin.Slice.sliceAdjust
  have h1 : ¬ ((1 : Int) < 0) := by omega
  have h2 : ¬ ((b : Int) < 0) := by omega
  simp only [h1, h2, if_false]
  congr 1
  omega
theorem places_upto (m : Nat) : Builtin.Slice.slicePlaces 0 (m : Int) 1 = m := by
  unfold Builtin.Slice.slicePlaces
  have h1 : (1 : Int) > 0 := by omega
  simp only [h1, if_true, Int.ediv_one]
  split <;> omega
theorem applied_upto {A : Around} {s : Shared} {E : Value → Shared → Prop} {sl : Addr} {b n : Nat} {u : Tok} {Q : Int × Int × Nat → Shared → Prop} (hs : s.heap.IsSliceOf sl .none (.int b u) .none) (h : Q (0, 1, min b n) s) :
    wpAny (model prog w) A (Builtin.Slice.sliceApplied (.ref sl) (pure (n : Int))) Q E s := by
  obtain ⟨os, hos, hcs, hds⟩ := id hs
  unfold Builtin.Slice.sliceApplied Builtin.Slice.sliceFields
  refine wpAny_bind (wpAny_bind (wpAny_field hos hds (x := .none) rfl (wpAny_bind (wpAny_field hos hds (x := .int b u) rfl (wpAny_bind (wpAny_field hos hds (x := .none) rfl (wpAny_pure ?_)))))))
  refine wpAny_bind (slicePart_none ?_)
  show wpAny _ _ (if ((1 : Int) == 0) = true then _ else _) _ _ s
  rw [if_neg (by decide)]
  refine wpAny_bind (slicePart_none (wpAny_bind (slicePart_int (wpAny_bind (wpAny_pure ?_)))))
  show wpAny _ _ (match Builtin.Slice.sliceAdjust none (some (b : Int)) 1 (n : Int) with | (lo, hi) => pure (lo, (1 : Int), Builtin.Slice.slicePlaces lo hi 1)) _ _ s
  rw [adjust_upto]
  show wpAny _ _ (pure ((0 : Int), (1 : Int), Builtin.Slice.slicePlaces 0 ((min b n : Nat) : Int) 1)) _ _ s
  rw [places_upto]
  exact wpAny_pure h
theorem pick_upto (xs : List Value) (m : Nat) (hm : m ≤ xs.length) : ((List.range m).filterMap fun (k : Nat) => xs.toArray[((0 : Int) + (k : Int) * 1).toNat]?).toArray = (xs.take m).toArray := by
  have e : (fun (k : Nat) => xs.toArray[((0 : Int) + (k : Int) * 1).toNat]?) = fun k => xs.toArray[0 + k]? := by
    funext k
    have : ((0 : Int) + (k : Int) * 1).toNat = 0 + k := by omega
    rw [this]
  rw [e]
  have := pick_run xs.toArray 0 m
  rw [List.filterMap_map] at this
  have e2 : ((fun x => xs.toArray[x]?) ∘ fun x => 0 + x) = fun k => xs.toArray[0 + k]? := rfl
  rw [e2] at this
  rw [this]; simp
theorem getT_upto {A : Around} {s : Shared} {E : Value → Shared → Prop} {t sl : Addr} {vs : List Value} {b : Nat} {u : Tok} {Q : Value → Shared → Prop} (ht : IsTup s.heap t vs.toArray) (hs : s.heap.IsSliceOf sl .none (.int b u) .none)
    (hsame : vs.length ≤ b → Q (.ref t) s) (hnew : b < vs.length → Q (.ref s.heap.objs.size) { s with heap := s.heap.push { cls := .type "tuple", data := .seq (vs.take b).toArray } })
    (hsz : vs.length ≤ sizeLine) : wpAny (model prog w) A (getItem (.ref t) (.ref sl)) Q E s := by
  have hdrop : sizeOk (.seq (vs.take b).toArray) := by
    show (vs.take b).toArray.size ≤ sizeLine
    rw [List.size_toArray, List.length_take]
    omega
  obtain ⟨os, hos, hcs, hds⟩ := id hs
  have hTs : s.TypeIs (.ref sl) "slice" := ⟨os, hos, hcs⟩
  unfold getItem
  refine wpAny_holding ?_
  refine wpAny_bind (wpAny_sequenceKey ht.typeIs (by decide) ?_)
  refine wpAny_bind (wpAny_callSpecial?_slot (name := Str.ofString "__getitem__") ht.typeIs PySem.F.slot_tuple_getitem
    (wpAny_call_entry PySem.F.slot_tuple_getitem ht.typeIs PySem.F.entry_tuple_getitem ?_ (PySem.F.args_tuple_getitem_2 _ _)))
  show wpAny _ _ (Builtin.Tuple.tupleItemsOf (.ref t) >>= _) _ _ s
  refine wpAny_bind (tupleItemsOf_ ht ?_)
  refine wpAny_bind (wpAny_typeOf hTs ?_)
  rw [if_pos (by decide)]
  refine wpAny_bind (applied_upto hs ?_)
  show wpAny _ _ (if ((0 : Int) == 0 && (1 : Int) == 1 && (min b vs.toArray.size) == vs.toArray.size) = true then _ else _) _ _ s
  by_cases hb : vs.length ≤ b
  · have hc : ((0 : Int) == 0 && (1 : Int) == 1 && (min b vs.toArray.size) == vs.toArray.size) = true := by simp; omega
    rw [if_pos hc]
    refine wpAny_bind (wpAny_bind (m := Builtin.Tuple.tupleIsExact _) (wpAny_bind (wpAny_typeOf ht.typeIs (wpAny_pure (wpAny_pure ?_)))))
    rw [if_pos (by decide)]
    exact wpAny_bind (wpAny_rule (wpAny_pure ⟨_, rfl, wpAny_pure (hsame hb)⟩))
  · have hc : ¬ (((0 : Int) == 0 && (1 : Int) == 1 && (min b vs.toArray.size) == vs.toArray.size) = true) := by simp; omega
    rw [if_neg hc]
    have hm : min b vs.toArray.size = b := by simp; omega
    rw [hm, pick_upto vs b (by omega)]
    exact wpAny_bind (m := Builtin.Tuple.tupleExact _) (wpAny_newObj_type (wpAny_pure ⟨_, rfl, wpAny_pure (hnew (by omega))⟩) hdrop)
theorem ev_tslice {e hi : Expr} {p pos : Pos} {ds : List D} {b : Int} (he : Ev prog w c e (.tuple ds)) (hhi : Ev prog w c hi (.int b)) (h0 : 0 ≤ b)
    (hs : ∀ o v, ∃ ops, subscripted (.Slice none (some hi) none p) false o v = operate ops (getItem o v) := by intro _ _; exact ⟨_, rfl⟩) : Ev prog w c (.Subscript e (.Slice none (some hi) none p) pos) (.tuple (ds.take b.toNat)) := fun K s Q E ok q => by
  refine Subscript_ (he K s _ E ok fun K1 o s1 n1 r1 => wpAny_Slice (evP_none K1 s1 _ E (ok.next n1) fun K2 u s2 n2 p2 => evP_some hhi K2 s2 _ E ((ok.next n1).next n2) fun K3 v s3 n3 p3 => evP_none K3 s3 _ E (((ok.next n1).next n2).next n3) fun K4 r s4 n4 p4 => ?_))
  have n5 : Next K4 s4 K4 { s4 with heap := s4.heap.push { cls := .type "slice", data := .fields #[u, v, r] } } := .keep n4.inH (kp_push s4 _)
  have r5 := r1.mono (((n2.sub.trans n3.sub).trans n4.sub).trans n5.sub)
  have nn := (((n1.trans n2).trans n3).trans n4).trans n5
  obtain ⟨ops, hops⟩ := hs o (.ref s4.heap.objs.size)
  obtain ⟨m, rfl⟩ : ∃ m : Nat, b = m := ⟨b.toNat, by omega⟩
  cases p2; cases p4
  cases p3 with
  | int _ tk =>
  cases r5 with
  | @tuple a o vs n _ h1 h2 h3 h4 h5 =>
    have g1 := n5.inH _ _ h1
    have ht : IsTup (s4.heap.push { cls := .type "slice", data := .fields #[.none, .int m tk, .none] }) a vs.toArray := ⟨o, g1, h2, n, h3⟩
    have hlen := h4.length
    have hz : (ds.take (m : Int).toNat).length ≤ lim := Nat.le_trans (by rw [List.length_take]; exact Nat.min_le_right _ _) h5
    refine tail_any ht.typeIs PySem.F.slot_tuple_getitem.lookup (getT_upto (s := { s4 with heap := s4.heap.push { cls := .type "slice", data := .fields #[.none, .int m tk, .none] } }) ht (Heap.IsSliceOf.new ..) (fun hle => ?_) (fun hlt => ?_) (by rw [hlen]; exact lim_size h5)) hops
    · have e : ds.take (m : Int).toNat = ds := List.take_of_length_le (by omega)
      rw [e] at q
      exact q _ _ _ nn (.tuple h1 h2 h3 h4 h5)
    · have e : (m : Int).toNat = m := by omega
      rw [e] at q hz
      exact q _ _ _ (nn.trans (.made n5.inH (kp_push _ _) (get_size _) (Heap.get?_push_size _ rfl))) (.tuple (KM.set_self _ _ _) rfl rfl ((h4.take m).mono (KM.sub_set (none_of_fresh n5.inH (get_size _)))) hz)

/-! ## conditional expressions, «or» as a value -/
theorem ev_if_true {t b o : Expr} {pos : Pos} {d : D} (ht : EvT prog w c t true) (hb : Ev prog w c b d) : Ev prog w c (.IfExp t b o pos) d := fun K s Q E ok q =>
  wpAny_IfExp (ht K s _ E ok fun K1 s1 n1 => hb K1 s1 Q E (ok.next n1) fun K2 v s2 n2 r2 => q K2 v s2 (n1.trans n2) r2)
theorem ev_if_false {t b o : Expr} {pos : Pos} {d : D} (ht : EvT prog w c t false) (ho : Ev prog w c o d) : Ev prog w c (.IfExp t b o pos) d := fun K s Q E ok q =>
  wpAny_IfExp (ht K s _ E ok fun K1 s1 n1 => ho K1 s1 Q E (ok.next n1) fun K2 v s2 n2 r2 => q K2 v s2 (n1.trans n2) r2)
theorem evr_if_true {t b o : Expr} {pos : Pos} {d : D} (ht : EvT prog w c t true) (hb : EvR prog w c b d) : EvR prog w c (.IfExp t b o pos) d := fun K s Q E ok q =>
  wpAny_IfExp (ht K s _ E ok fun K1 s1 n1 => hb K1 s1 Q E (ok.next n1) fun K2 v s2 n2 r2 => q K2 v s2 (n1.trans n2) r2)
theorem evn_if_true {t b o : Expr} {pos : Pos} {d : D} (ht : EvT prog w c t true) (hb : EvN prog w c b d) : EvN prog w c (.IfExp t b o pos) d := fun K s Q E ok q =>
  wpAny_IfExp (ht K s _ E ok fun K1 s1 n1 => hb K1 s1 Q E (ok.next n1) fun K2 v s2 n2 hf hn r2 => q K2 v s2 (n1.trans n2) (n1.keeps.none hf) hn r2)
theorem evn_if_false {t b o : Expr} {pos : Pos} {d : D} (ht : EvT prog w c t false) (ho : EvN prog w c o d) : EvN prog w c (.IfExp t b o pos) d := fun K s Q E ok q =>
  wpAny_IfExp (ht K s _ E ok fun K1 s1 n1 => ho K1 s1 Q E (ok.next n1) fun K2 v s2 n2 hf hn r2 => q K2 v s2 (n1.trans n2) (n1.keeps.none hf) hn r2)
theorem ev_or_none {a b : Expr} {pos : Pos} {d : D} (ha : Ev prog w c a .none) (hb : Ev prog w c b d) : Ev prog w c (.BoolOp .Or [a, b] pos) d := fun K s Q E ok q => by
  show wpAny _ _ (boolOp pos .Or [eval a c.env, eval b c.env]) Q E s
  rw [boolOp]
  · refine wpAny_bind (ha K s _ E ok fun K1 v s1 n1 r1 => ?_)
    cases r1
    refine wpAny_bind (wpAny_standAt (wpAny_bind (wpAny_holding (wpAny_pure ?_))))
    exact hb K1 s1 Q E (ok.next n1) fun K2 v s2 n2 r2 => q K2 v s2 (n1.trans n2) r2
  · intro h; cases h
theorem ev_or_ref {a b : Expr} {pos : Pos} {d : D} (ha : Ev prog w c a d) (hd : d.truth = true) : Ev prog w c (.BoolOp .Or [a, b] pos) d := fun K s Q E ok q => by
  show wpAny _ _ (boolOp pos .Or [eval a c.env, eval b c.env]) Q E s
  rw [boolOp]
  · refine wpAny_bind (ha K s _ E ok fun K1 v s1 n1 r1 => ?_)
    have hr : d.isRef = true := by cases d <;> first | rfl | (simp [D.truth] at hd)
    obtain ⟨x, rfl, t⟩ := r1.top n1.inH hr
    refine wpAny_bind (wpAny_standAt (wpAny_bind (wpAny_holding (truthy_top t fun s2 k => ?_))))
    rw [hd]
    exact wpAny_pure (q K1 _ s2 (n1.trans (.keep n1.inH k)) r1)
  · intro h; cases h
end
end Mine
namespace Mine
section
variable {prog : Program} {w : World} {A : Around} {E : Value → Shared → Prop} {s : Shared}

/-! ## dicts: a pair put, a dict merged -/
theorem put_pairs {d : Addr} {kvs : List (Key × Value)} {k : Key} {key v : Value} {Q : Unit → Shared → Prop} (hkey : (keyKind prog w).is k key = true) (hm : s.heap.DictOf (keyKind prog w) d kvs)
    (hQ : ∀ h', h'.DictOf (keyKind prog w) d (stored kvs k v) → Heap.SameBut d s.heap h' → Q () { s with heap := h' }) (hsz : kvs.length ≤ sizeLine) :
    wpAny (model prog w) A (dictPut d ((keyKind prog w).hash k) key v) Q E s := by
  obtain ⟨o, es, ep, ho, hc, hd, hk, hp, hn⟩ := hm
  have hes : es.size ≤ sizeLine := by have e1 := hp.length; have e2 : es.toList.length = es.size := by simp
                                      omega
  unfold dictPut
  refine wpAny_bind (wpAny_dictFind_of hkey ho hd hk ?_)
  have hidx : (es.findIdx? fun e => (keyKind prog w).is k e.key) = kvs.findIdx? fun kv => decide (kv.1 = k) := by
    rw [← hp.findIdx k]; obtain ⟨l⟩ := es; simp
  cases hi : es.findIdx? fun e => (keyKind prog w).is k e.key with
  | some i =>
    refine wpAny_updateDict ho hd (hQ _ ⟨_, _, ep, Heap.get?_update_self _ ho (Obj.isFreed_of_dict (Obj.data_mapDict hd _)), hc.mapDict _, Obj.data_mapDict hd _, hk.modify _ _, ?_, ?_⟩ (Heap.SameBut.update ..))
    · rw [stored, if_pos (any_of_findIdx_some (hidx ▸ hi))]
      have hl : (es.toList.findIdx? fun e => (keyKind prog w).is k e.key) = some i := by rw [← hi]; obtain ⟨l⟩ := es; simp
      have := hp.modify hn hl v
      obtain ⟨l⟩ := es
      simpa using this
    · rw [stored, if_pos (any_of_findIdx_some (hidx ▸ hi)), keys_map_store]; exact hn
  | none =>
    have hnot : k ∉ kvs.map (·.1) := not_mem_of_findIdx_none (hidx ▸ hi)
    have hany : ¬ (kvs.any fun kv => decide (kv.1 = k)) = true := by
      rw [List.any_eq_true]; rintro ⟨kv, hkv, he⟩
      exact hnot (List.mem_map.mpr ⟨kv, hkv, of_decide_eq_true he⟩)
    refine wpAny_updateDictKeys (hz := hes) ho hd (hQ _ ⟨_, _, ep + 1, Heap.get?_update_self _ ho (Obj.isFreed_of_dict (Obj.data_mapDictKeys hd _)), hc.mapDictKeys _, Obj.data_mapDictKeys hd _, hk.push hkey _, ?_, ?_⟩ (Heap.SameBut.update ..))
    · rw [stored, if_neg hany]
      have := hp.append hkey ((keyKind prog w).hash k) v
      obtain ⟨l⟩ := es
      simpa using this
    · rw [stored, if_neg hany, List.map_append, List.nodup_append]
      refine ⟨hn, by simp, ?_⟩
      intro a ha b hb
      simp only [List.map_cons, List.map_nil, List.mem_singleton] at hb
      subst hb
      exact fun e => hnot (e ▸ ha)
theorem key_noRef {k : Key} {v : Value} (h : (keyKind prog w).is k v = true) : ∀ a, v ≠ .ref a := by
  intro a e
  subst e
  have := (keyKind prog w).byValue k _ h
  cases this
theorem find_none {d : Addr} {kvs : List (Key × Value)} {k : Key} {key : Value} {Q : Option Nat → Shared → Prop} (hkey : (keyKind prog w).is k key = true) (hm : s.heap.DictOf (keyKind prog w) d kvs) (hk : k ∉ kvs.map (·.1)) (h : Q none s) :
    wpAny (model prog w) A (dictFind d key ((keyKind prog w).hash k)) Q E s := by
  obtain ⟨o, es, ep, ho, hc, hd, hks, hp, hn⟩ := hm
  refine wpAny_dictFind_of hkey ho hd hks ?_
  have hidx : (es.findIdx? fun e => (keyKind prog w).is k e.key) = kvs.findIdx? fun kv => decide (kv.1 = k) := by
    rw [← hp.findIdx k]; obtain ⟨l⟩ := es; simp
  have : kvs.findIdx? (fun kv => decide (kv.1 = k)) = none := by
    rw [List.findIdx?_eq_none_iff]
    intro x hx
    have : x.1 ≠ k := fun e => hk (e ▸ List.mem_map.mpr ⟨x, hx, rfl⟩)
    simpa using this
  rw [hidx, this]; exact h

theorem merge_dict {d o : Addr} {acc kvs : List (Key × Value)} {unique : Bool} {Q : Unit → Shared → Prop} (hdo : d ≠ o) (hoS : (o == sysModules) = false)
    (hd : s.heap.DictOf (keyKind prog w) d acc) (ho : s.heap.DictOf (keyKind prog w) o kvs) (hu : unique = true → acc = [])
    (hQ : ∀ h', h'.DictOf (keyKind prog w) d (merged acc kvs) → Heap.SameBut d s.heap h' → Q () { s with heap := h' }) (hsz : acc.length + kvs.length ≤ sizeLine) :
    wpAny (model prog w) A (mergeMapping d (.ref o) unique) Q E s := by
  obtain ⟨od, esd, epd, hod, hcd, hdd, hkd, hpd, hnd⟩ := id hd
  obtain ⟨oo, eso, epo, hoo, hco, hdo', hko, hpo, hno⟩ := id ho
  have hlen : kvs.length = eso.size := by rw [← hpo.length]; simp
  unfold mergeMapping
  refine wpAny_bind (m := isInstance (.ref o) (.type "dict")) (wpAny_isInstance ho.typeIs isSubtype_dict_dict ?_)
  simp only [if_true]
  refine wpAny_bind (wpAny_specialOf ho.typeIs PySem.F.slot_dict_iter.lookup (wpAny_bind (wpAny_pure ?_)))
  simp only [beq_self_eq_true]
  rw [if_neg (by rw [hoS]; exact Bool.false_ne_true)]
  have loop : wpAny (model prog w) A (do
      let l ← dictEntries o
      let epoch ← dictEpoch o
      forIn (List.range l.size) PUnit.unit fun i (_ : PUnit) => (do
          let l' ← dictEntries o
          match l'[i]? with
            | some e => do
              holding [e.key, e.val] (if unique = true then do
                  let r ← dictFind d e.key e.hash
                  if r.isSome = true then do
                      rule "dict.merge.duplicate-key"
                      let x ← newExc (Value.type "KeyError") [e.key]
                      (raiseNew x : Sem PUnit)
                      dictPut d e.hash e.key e.val
                    else dictPut d e.hash e.key e.val
                else dictPut d e.hash e.key e.val)
              let ep' ← dictEpoch o
              if (ep' != epoch) = true then do
                  (unsupported "dict.changed-during-merge" : Sem PUnit)
                  pure (ForInStep.yield PUnit.unit)
                else pure (ForInStep.yield PUnit.unit)
            | _ => do
              (unsupported "dict.changed-during-merge" : Sem PUnit)
              pure (ForInStep.yield PUnit.unit) : Sem (ForInStep PUnit))
      pure ()) Q E s := by
    refine wpAny_bind (wpAny_dictEntries hoo hdo' ?_)
    refine wpAny_bind (wpAny_dictEpoch hoo hdo' ?_)
    refine wpAny_bind ?_
    rw [List.range_eq_range']
    refine wpAny_forIn_list _
      (fun rest _ s' => ∃ h' i, s' = { s with heap := h' } ∧ rest = List.range' i (eso.size - i) ∧ i ≤ eso.size ∧ h'.DictOf (keyKind prog w) d (merged acc (kvs.take i)) ∧ h'.get? o = some oo ∧ Heap.SameBut d s.heap h')
      _ ?_ ?_ _ _ ⟨s.heap, 0, rfl, by simp, Nat.zero_le _, by simpa [merged] using hd, hoo, Heap.SameBut.refl _ _⟩
    · rintro x rest b s' ⟨h', i, rfl, hr, hi, hd', hoo', hs'⟩
      have hlt : i < eso.size := by
        rcases Nat.lt_or_ge i eso.size with h | h
        · exact h
        · rw [Nat.sub_eq_zero_of_le h] at hr; simp at hr
      obtain ⟨rfl, hrest⟩ : x = i ∧ rest = List.range' (i + 1) (eso.size - (i + 1)) := by
        have e : eso.size - i = (eso.size - (i + 1)) + 1 := by omega
        rw [e, List.range'_succ] at hr
        injection hr with h1 h2
        exact ⟨h1, h2⟩
      refine wpAny_bind (wpAny_dictEntries hoo' hdo' ?_)
      rw [Array.getElem?_eq_getElem hlt]
      obtain ⟨kv, hkv⟩ : ∃ kv, kvs[x]? = some kv := ⟨kvs[x]'(by rw [hlen]; exact hlt), List.getElem?_eq_getElem _⟩
      obtain ⟨k, v⟩ := kv
      obtain ⟨hkey, hval⟩ := hpo.get? (e := eso[x]) (by simp [hlt]) hkv
      obtain ⟨k', hkey', hhash⟩ := hko eso[x] (Array.getElem_mem hlt)
      obtain rfl : k' = k := (keyKind prog w).inj _ _ _ hkey' hkey
      have hmx : (merged acc (kvs.take x)).length ≤ sizeLine := by
        have e1 := merged_length_le acc (kvs.take x)
        have e2 : (kvs.take x).length ≤ kvs.length := by rw [List.length_take]; omega
        omega
      show wpAny _ _ (holding [eso[x].key, eso[x].val] _ >>= _) _ _ _
      rw [hhash, hval]
      refine wpAny_bind (wpAny_holding ?_)
      cases unique with
      | false =>
        rw [if_neg (by decide)]
        refine put_pairs hkey hd' (fun h'' hd'' hs'' => ?_) hmx
        have hoo'' : h''.get? o = some oo := (hs''.2 o (Ne.symm hdo)).trans hoo'
        refine wpAny_bind (wpAny_dictEpoch hoo'' hdo' ?_)
        rw [if_neg (by simp)]
        exact wpAny_pure ⟨h'', x + 1, rfl, hrest, hlt, by rw [merged_take_succ acc kvs x (k', v) hkv]; exact hd'', hoo'', hs'.trans hs''⟩
      | true =>
        rw [if_pos rfl]
        have hne : k' ∉ (merged acc (kvs.take x)).map (·.1) := by
          rw [hu rfl, merged_nil_of_nodup _ (by rw [List.map_take]; exact (List.take_sublist _ _).nodup hno)]
          intro hm
          obtain ⟨p, hp1, hp2⟩ := List.mem_map.mp hm
          obtain ⟨j, hj⟩ := List.getElem?_of_mem hp1
          rw [List.getElem?_take] at hj
          split at hj
          · rename_i hjx
            have hx1 : (kvs.map (·.1))[x]? = some k' := by rw [List.getElem?_map, hkv]; rfl
            have hx2 : (kvs.map (·.1))[j]? = some k' := by rw [List.getElem?_map, hj]; exact congrArg some hp2
            have := (List.getElem?_inj (List.getElem?_eq_some_iff.mp hx2).1 hno).mp (hx2.trans hx1.symm)
            omega
          · cases hj
        refine wpAny_bind (find_none hkey hd' hne ?_)
        rw [if_neg (by simp)]
        refine put_pairs hkey hd' (fun h'' hd'' hs'' => ?_) hmx
        have hoo'' : h''.get? o = some oo := (hs''.2 o (Ne.symm hdo)).trans hoo'
        refine wpAny_bind (wpAny_dictEpoch hoo'' hdo' ?_)
        rw [if_neg (by simp)]
        exact wpAny_pure ⟨h'', x + 1, rfl, hrest, hlt, by rw [merged_take_succ acc kvs x (k', v) hkv]; exact hd'', hoo'', hs'.trans hs''⟩
    · rintro b s' ⟨h', i, rfl, hr, hi, hd', hoo', hs'⟩
      have hin : i = eso.size := by
        rcases Nat.lt_or_ge i eso.size with h | h
        · have e : eso.size - i = (eso.size - (i + 1)) + 1 := by omega
          rw [e, List.range'_succ] at hr; exact nomatch hr
        · exact Nat.le_antisymm hi h
      refine wpAny_pure (hQ h' ?_ hs')
      rw [hin, ← hlen, List.take_length] at hd'; exact hd'
  refine wpAny_bind (wpAny_dictEntries hod hdd ?_)
  split
  · refine wpAny_bind (wpAny_dictEntries hoo hdo' (wpAny_bind ?_))
    refine wpAny_forIn_array' _ (fun rest _ s' => s' = s ∧ ∀ e ∈ rest, e ∈ eso.toList) _ ?_ ?_ _ _ ⟨rfl, fun e he => he⟩
    · rintro e rest b s' ⟨rfl, hm⟩
      obtain ⟨k, hk, _⟩ := hko e (Array.mem_toList_iff.mp (hm e (.head _)))
      have hnr := key_noRef hk
      split
      · rename_i a ha; exact absurd ha (hnr a)
      · exact wpAny_pure ⟨rfl, fun e he => hm e (.tail _ he)⟩
    · rintro b s' ⟨rfl, _⟩
      exact loop
  · exact loop
end
end Mine
namespace Mine
section
variable {prog : Program} {w : World} {c : Cx}

/-! ## arguments -/
structure KwAll (prog : Program) (w : World) (K : KM) (kvs : List (Str × Value)) (kw : List (Str × D)) : Prop where
  names : kvs.map (·.1) = kw.map (·.1)
  vals : All prog w K (kvs.map (·.2)) (kw.map (·.2))
theorem KwAll.nil {K : KM} : KwAll prog w K [] [] := ⟨rfl, .nil⟩
theorem KwAll.mono {K K' : KM} {kvs : List (Str × Value)} {kw : List (Str × D)} (h : KwAll prog w K kvs kw) (hs : Sub K K') : KwAll prog w K' kvs kw := ⟨h.names, h.vals.mono hs⟩
def EvArgs (prog : Program) (w : World) (c : Cx) (args : List Expr) (keywords : List Keyword) (ds : List D) (kw : List (Str × D)) : Prop :=
  ∀ (f : Value) (pos : Pos) (K : KM) (s : Shared) (Q : Args → Shared → Prop) (E : Value → Shared → Prop), Ok prog w c K s → (∀ K' vs kvs s', Next K s K' s' → All prog w K' vs ds → KwAll prog w K' kvs kw → Q ⟨vs, kvs⟩ s') →
    wpAny (model prog w) c.A (evalArgs f true (backTo pos (starEach args c.env)) (backToKw pos (keywordEach keywords c.env))) Q E s
/-- no lone star -/
def noLone (env : Env) (args : List Expr) : Prop := ∀ pos : Pos, (∃ x rest, backTo pos (starEach args env) = (false, x) :: rest) ∨ backTo pos (starEach args env) = []
theorem evArgs_plain {args : List Expr} {ds : List D} (h : EvL prog w c args ds) (hn : noLone c.env args) : EvArgs prog w c args [] ds [] := fun f pos K s Q E ok q => by
  have h1 := h pos K s (fun vs s' => Q ⟨vs, []⟩ s') E ok fun K' vs s' n r => q K' vs [] s' n r .nil
  rcases hn pos with ⟨x, rest, e⟩ | e
  · rw [e] at h1 ⊢; exact evalArgs_plain h1
  · rw [e] at h1 ⊢
    show wpAny _ _ (evalArgs f true [] []) _ _ _
    unfold evalArgs
    show wpAny _ _ (spliced [] >>= _) _ _ _
    refine wpAny_bind (wpAny_mono h1 (fun vs s₁ h₁ => ?_) fun _ _ x => x)
    exact wpAny_bind (wpAny_pure (wpAny_holding (wpAny_bind (wpAny_pure (wpAny_bind (wpAny_pure (wpAny_pure h₁)))))))
theorem evArgs_named {args : List Expr} {ds : List D} {n : Str} {e : Expr} {p : Pos} {d : D} (h : EvL prog w c args ds) (hn : noLone c.env args) (he : Ev prog w c e d) : EvArgs prog w c args [⟨some n, e, p⟩] ds [(n, d)] := fun f pos K s Q E ok q => by
  have hk : ∀ (K1 : KM) (vs : List Value) (s1 : Shared), Next K s K1 s1 → All prog w K1 vs ds → wpAny (model prog w) c.A (evalAll ((backToKw pos (keywordEach [⟨some n, e, p⟩] c.env)).map (·.2))) (fun ks s₂ => Q ⟨vs, ((backToKw pos (keywordEach [⟨some n, e, p⟩] c.env)).filterMap (·.1)).zip ks⟩ s₂) E s1 := by
    intro K1 vs s1 n1 r1
    show wpAny _ _ (evalAll [(do let v ← eval e c.env; standAt pos; pure v)]) _ _ _
    refine wpAny_evalAll_cons (wpAny_bind (he K1 s1 _ E (ok.next n1) fun K2 v s2 n2 r2 => wpAny_bind (wpAny_standAt (wpAny_pure (wpAny_evalAll_nil ?_)))))
    exact q K2 vs [(n, v)] s2 (n1.trans n2) (r1.mono n2.sub) ⟨rfl, .cons r2 .nil⟩
  rcases hn pos with ⟨x, rest, e'⟩ | e'
  · have h1 := h pos K s _ E ok hk
    rw [e'] at h1 ⊢
    exact evalArgs_kw rfl h1
  · have h1 := h pos K s _ E ok hk
    rw [e'] at h1 ⊢
    unfold evalArgs
    show wpAny _ _ (spliced [] >>= _) _ _ _
    refine wpAny_bind (wpAny_mono h1 (fun vs s₁ h₁ => ?_) fun _ _ x => x)
    refine wpAny_bind (wpAny_pure (wpAny_holding ?_))
    show wpAny _ _ (evalAll _ >>= _) _ _ _
    exact wpAny_bind (wpAny_mono h₁ (fun ks s₂ h₂ => wpAny_bind (wpAny_pure (wpAny_pure h₂))) fun _ _ x => x)

theorem kwIn {A : Around} {E : Value → Shared → Prop} {f : Value} {d : Addr} {kvs : List (Key × Value)} {ks : List Str} {s : Shared} {Q : List (Str × Value) → Shared → Prop} (hd : s.heap.DictOf (keyKind prog w) d kvs) (hk : kvs.map (·.1) = ks.map Key.s)
    (h : Q (ks.zip (kvs.map (·.2))) s) : wpAny (model prog w) A (keywordsIn f d) Q E s := by
  obtain ⟨o, es, ep, ho, hc, hdd, hks, hp, hn⟩ := hd
  unfold keywordsIn
  refine wpAny_bind (wpAny_dictEntries ho hdd (wpAny_bind ?_))
  refine wpAny_forIn_array' _ (fun rest acc s' => s' = s ∧ ∃ i, rest = es.toList.drop i ∧ i ≤ kvs.length ∧ acc = (ks.zip (kvs.map (·.2))).take i) _ ?_ ?_ _ _ ⟨rfl, 0, by simp, Nat.zero_le _, by simp⟩
  · rintro e rest acc s' ⟨rfl, i, hr, hi, rfl⟩
    have hlen : kvs.length = es.toList.length := hp.length.symm
    have hkl : ks.length = kvs.length := by have := congrArg List.length hk; simpa using this.symm
    have hlt : i < es.toList.length := by
      rcases Nat.lt_or_ge i es.toList.length with h' | h'
      · exact h'
      · rw [List.drop_of_length_le h'] at hr; cases hr
    rw [List.drop_eq_getElem_cons hlt] at hr
    injection hr with he hrest
    obtain ⟨kv, hkv⟩ : ∃ kv, kvs[i]? = some kv := ⟨kvs[i]'(by omega), List.getElem?_eq_getElem _⟩
    obtain ⟨k, v⟩ := kv
    obtain ⟨hkey, hval⟩ := hp.get? (e := e) (by rw [he]; exact List.getElem?_eq_getElem hlt) hkv
    have hki : (ks.map Key.s)[i]? = some k := by rw [← hk, List.getElem?_map, hkv]; rfl
    rw [List.getElem?_map] at hki
    cases hx : ks[i]? with
    | none => rw [hx] at hki; cases hki
    | some x =>
      rw [hx] at hki
      have hkx : Key.s x = k := by simpa using hki
      subst hkx
      obtain ⟨t, ht⟩ := Value.isStrOf_shape (show Value.isStrOf x e.key = true from hkey)
      rw [ht]
      refine wpAny_pure ⟨rfl, i + 1, hrest, by omega, ?_⟩
      have hz : (ks.zip (kvs.map (·.2)))[i]? = some (x, v) := by rw [List.getElem?_zip_eq_some]; exact ⟨hx, by rw [List.getElem?_map, hkv]; rfl⟩
      rw [List.take_add_one, hz, hval]; rfl
  · rintro acc s' ⟨rfl, i, hr, hi, rfl⟩
    have hlen : kvs.length = es.toList.length := hp.length.symm
    have hge : kvs.length ≤ i := by
      rcases Nat.lt_or_ge i es.toList.length with h' | h'
      · rw [List.drop_eq_getElem_cons h'] at hr; cases hr
      · omega
    refine wpAny_pure ?_
    have hz : (ks.zip (kvs.map (·.2))).length ≤ i := by rw [List.length_zip, List.length_map]; omega
    rw [List.take_of_length_le hz]; exact h
theorem Next.touched {K K' : KM} {s s' : Shared} (n : Next K s K' s') {a : Addr} {h' : Heap} (hD : s.heap.get? a = none) (hK : K' a = none) (hs : Heap.SameBut a s'.heap h') (tk : Nat) : Next K s K' { s' with heap := h', toks := tk } := by
  have hne : ∀ {b : Addr} {o : Obj}, s.heap.get? b = some o → b ≠ a := fun e q => by subst q; rw [hD] at e; cases e
  refine ⟨?_, n.sub, fun b o e => ?_, n.fresh⟩
  · obtain ⟨h1, t1, rfl, k1⟩ := n.keeps
    exact ⟨h', tk, rfl, fun b o e => (hs.2 b (hne e)).trans (k1 b o e)⟩
  · have : b ≠ a := fun q => by subst q; rw [hK] at e; cases e
    exact (hs.2 b this).trans (n.inH b o e)
theorem Next.notIn {K K' : KM} {s s' : Shared} (n : Next K s K' s') {a : Addr} {o : Obj} (hK : K a = none) (ha : s.heap.get? a = some o) : K' a = none := by
  cases q : K' a with
  | none => rfl
  | some o' => have := n.fresh a o' q hK; rw [ha] at this; cases this
theorem sizeLine_lim {n m : Nat} (h : n ≤ lim) (h' : m ≤ lim) : n + m ≤ sizeLine := by have : lim = 4096 := rfl; rw [sizeLine_eq]; omega
theorem evArgs_star {args : List Expr} {ds : List D} {e : Expr} {p : Pos} {ks : List Str} {es : List D} (h : EvL prog w c args ds) (hn : noLone c.env args) (he : Ev prog w c e (.dict (ks.map Key.s) es)) : EvArgs prog w c args [⟨none, e, p⟩] ds (ks.zip es) := fun f pos K s Q E ok q => by
  have hk : ∀ (K1 : KM) (vs : List Value) (s1 : Shared), Next K s K1 s1 → All prog w K1 vs ds → wpAny (model prog w) c.A (do
      let d ← mergedKeywords f [(none, (do let v ← eval e c.env; standAt pos; pure v))]
      pure (⟨vs, ← holding (.ref d :: vs) (keywordsIn f d)⟩ : Args)) Q E s1 := by
    intro K1 vs s1 n1 r1
    refine wpAny_bind ?_
    unfold mergedKeywords
    refine wpAny_bind (wpAny_alloc (wpAny_bind (wpAny_holding ?_)))
    have na : Next K1 s1 K1 { s1 with heap := s1.heap.push { cls := .type "dict", data := .dict #[] } } := .keep n1.inH (kp_push s1 _)
    have hD := get_size s1.heap
    have hDK := none_of_fresh n1.inH hD
    have d0 : ({ s1 with heap := s1.heap.push { cls := .type "dict", data := .dict #[] } } : Shared).heap.DictOf (keyKind prog w) s1.heap.objs.size [] := Heap.DictOf.new s1.heap
    refine wpAny_bind ?_
    rw [List.forIn_cons]
    refine wpAny_bind (wpAny_bind ?_)
    show wpAny _ _ (if ([] : List (Str × Sem Value)).isEmpty = true then pure () else _) _ _ _
    rw [if_pos (show ([] : List (Str × Sem Value)).isEmpty = true from rfl)]
    refine wpAny_pure (wpAny_bind (wpAny_bind (he K1 _ _ E ((ok.next n1).next na) fun K2 v s2 n2 r2 => wpAny_bind (wpAny_standAt (wpAny_pure (wpAny_bind (wpAny_onRaise (wpAny_holding (wpAny_tryCatch (wpAny_onRaise ?_))))))))))
    obtain ⟨od, hod, _⟩ := Heap.dictOf_iff.mp d0
    have hDK2 : K2 s1.heap.objs.size = none := n2.notIn hDK hod
    have d2 := d0.keep fun b o e => n2.keeps.get e
    cases r2 with
    | @dict a o kvs _ us _ h1 h2 h3 h4 h5 h6 h7 =>
      subst h5
      have hle : kvs.length ≤ lim := by have := h6.length; rw [List.length_map] at this; omega
      have hdo : s1.heap.objs.size ≠ a := fun e => by rw [e] at hDK2; rw [hDK2] at h1; cases h1
      refine merge_dict hdo h3 d2 (Heap.dictOf_iff.mpr ⟨o, n2.inH _ _ h1, h2⟩) (fun _ => rfl) (fun h' hd' hs' => ?_) (by simpa using lim_size hle)
      have hno : (kvs.map (·.1)).Nodup := let ⟨_, _, _, _, _, _, hn⟩ := h2; hn
      rw [merged_nil_of_nodup kvs hno] at hd'
      have n3 : Next K s K2 { s2 with heap := h', toks := s2.toks } := ((n1.trans na).trans n2).touched (n1.keeps.none hD) hDK2 hs' _
      refine wpAny_pure ?_
      show wpAny _ _ (forIn ([] : List (Option Str × Sem Value)) ([] : List (Str × Sem Value)) _) _ _ _
      rw [List.forIn_nil]
      refine wpAny_pure ?_
      show wpAny _ _ (if ([] : List (Str × Sem Value)).isEmpty = true then pure () else _) _ _ _
      rw [if_pos (show ([] : List (Str × Sem Value)).isEmpty = true from rfl)]
      refine wpAny_pure (wpAny_pure (wpAny_bind (wpAny_holding (kwIn hd' h4 (wpAny_pure ?_)))))
      have hlen : ks.length = es.length := by
        have e1 := h6.length
        have e2 := congrArg List.length h4
        simp only [List.length_map] at e1 e2
        omega
      refine q K2 vs _ _ n3 (r1.mono (na.sub.trans n2.sub)) ⟨?_, ?_⟩
      · rw [List.map_fst_zip (by have e1 := h6.length; omega), List.map_fst_zip (by omega)]
      · rw [List.map_snd_zip (by have e1 := h6.length; omega), List.map_snd_zip (by omega)]; exact h6
  rcases hn pos with ⟨x, rest, e'⟩ | e'
  · have h1 := h pos K s _ E ok hk
    rw [e'] at h1 ⊢
    unfold evalArgs
    show wpAny _ _ (spliced ((false, x) :: rest) >>= _) _ _ _
    exact wpAny_bind (wpAny_mono h1 (fun vs s₁ h₁ => wpAny_bind (wpAny_pure (wpAny_holding h₁))) fun _ _ x => x)
  · have h1 := h pos K s _ E ok hk
    rw [e'] at h1 ⊢
    unfold evalArgs
    show wpAny _ _ (spliced [] >>= _) _ _ _
    exact wpAny_bind (wpAny_mono h1 (fun vs s₁ h₁ => wpAny_bind (wpAny_pure (wpAny_holding h₁))) fun _ _ x => x)

/-! ## calls -/
theorem load_fn {K : KM} {s : Shared} (ok : Ok prog w c K s) {f : Str} {i : Nat} (hf : (f, i) ∈ fnTab) (hk : c.env.kindOf f = some .globalImplicit) (hd : (f == ("__debug__" : Str)) = false) :
    ∃ a o fd, c.B.get? a = some o ∧ o.data = .func fd ∧ FnIs c.B fd i ∧ ∀ (pos : Pos) (Q : Value → Shared → Prop) (E : Value → Shared → Prop), Q (.ref a) s → wpAny (model prog w) c.A (eval (.Name f pos) c.env) Q E s := by
  obtain ⟨mg, mb, hg, hb, hbi, hfn, _⟩ := ok.mod.glob
  obtain ⟨a, o, fd, h1, h2, h3, h4⟩ := hfn _ hf
  refine ⟨a, o, fd, h2, h3, h4, fun pos Q E q => ?_⟩
  have hg' : s.heap.Ns mainGlobals mg := hg.keeps ok.base
  exact Name_function_global ok.env.kind hk (loadGlobal_global (by rw [ok.env.glob]; exact hg') h1 q) hd
theorem load_bi {K : KM} {s : Shared} (ok : Ok prog w c K s) {f : Str} {v : Value} (hf : (f, v) ∈ biTab) (hk : c.env.kindOf f = some .globalImplicit) (hd : (f == ("__debug__" : Str)) = false) (pos : Pos) {Q : Value → Shared → Prop} {E : Value → Shared → Prop}
    (q : Q v s) : wpAny (model prog w) c.A (eval (.Name f pos) c.env) Q E s := by
  obtain ⟨mg, mb, hg, hb, hbi, hfn, _⟩ := ok.mod.glob
  obtain ⟨h1, h2⟩ := hbi _ hf
  have hg' : s.heap.Ns mainGlobals mg := hg.keeps ok.base
  have hb' : s.heap.Ns builtinsNs mb := hb.keeps ok.base
  exact Name_function_global ok.env.kind hk (loadGlobal_builtin (by rw [ok.env.glob]; exact hg') h1 (by rw [ok.env.built]; exact hb') h2 q) hd

/-- what the def at place i makes of its arguments -/
def Spec (prog : Program) (w : World) (A : Around) (i : Nat) (ds : List D) (kw : List (Str × D)) (d : D) : Prop :=
  ∀ (B : Heap) (KB : KM) (a : Addr) (o : Obj) (fd : FuncData) (K : KM) (s : Shared) (vs : List Value) (kvs : List (Str × Value)) (R : Result → Shared → Prop), BaseOk prog w B KB → Sub KB K → B.get? a = some o → o.data = .func fd → FnIs B fd i →
    (∀ b o, B.get? b = some o → s.heap.get? b = some o) → InH K s.heap → All prog w K vs ds → KwAll prog w K kvs kw → (∀ K' v s', Next K s K' s' → Rep prog w K' v d → R (.ok (.ret v)) s') →
    codeAny (model prog w) A (.call (.ref a) ⟨vs, kvs⟩) R s
/-- the same, and the result is new -/
def SpecN (prog : Program) (w : World) (A : Around) (i : Nat) (ds : List D) (kw : List (Str × D)) (d : D) : Prop :=
  ∀ (B : Heap) (KB : KM) (a : Addr) (o : Obj) (fd : FuncData) (K : KM) (s : Shared) (vs : List Value) (kvs : List (Str × Value)) (R : Result → Shared → Prop), BaseOk prog w B KB → Sub KB K → B.get? a = some o → o.data = .func fd → FnIs B fd i →
    (∀ b o, B.get? b = some o → s.heap.get? b = some o) → InH K s.heap → All prog w K vs ds → KwAll prog w K kvs kw → (∀ K' x s', Next K s K' s' → s.heap.get? x = none → K' x = none → TopAt prog w K' s'.heap x d → R (.ok (.ret (.ref x))) s') →
    codeAny (model prog w) A (.call (.ref a) ⟨vs, kvs⟩) R s
theorem Spec.ofN {A : Around} {i : Nat} {ds : List D} {kw : List (Str × D)} {d : D} (h : SpecN prog w A i ds kw d) : Spec prog w A i ds kw d := fun B KB a o fd K s vs kvs R h0 h1 h2 h3 h4 h5 h6 h7 h8 q =>
  h B KB a o fd K s vs kvs R h0 h1 h2 h3 h4 h5 h6 h7 h8 fun K' x s' n hf hn t => by
    obtain ⟨ob, ho, r⟩ := t.seal n.inH hn
    exact q _ _ _ (n.seal hf hn ho) r
theorem call_road {K : KM} {s : Shared} (ok : Ok prog w c K s) {f : Str} {i : Nat} {p pos : Pos} {args : List Expr} {keywords : List Keyword} {ds : List D} {kw : List (Str × D)} {Q : Value → Shared → Prop} {E : Value → Shared → Prop} (hf : (f, i) ∈ fnTab)
    (ha : EvArgs prog w c args keywords ds kw)
    (h : ∀ a o fd K1 vs kvs s1, c.B.get? a = some o → o.data = .func fd → FnIs c.B fd i → Next K s K1 s1 → All prog w K1 vs ds → KwAll prog w K1 kvs kw → codeAny (model prog w) c.A (.call (.ref a) ⟨vs, kvs⟩) (fun r s' => match r with | .ok (.ret v) => Q v s' | .ok _ => False | .error e => E e s') s1)
    (hk : c.env.kindOf f = some .globalImplicit) (hd : (f == ("__debug__" : Str)) = false) : wpAny (model prog w) c.A (eval (.Call (.Name f p) args keywords pos) c.env) Q E s := by
  obtain ⟨a, o, fd, h1, h2, h3, h4⟩ := load_fn ok hf hk hd
  refine wpAny_Call_Name_kw (h4 p _ _ ?_)
  refine callWith_function_kw (o := o) (fd := fd) (ha (.ref a) pos K s _ E ok fun K1 vs kvs s1 n1 r1 k1 => ⟨⟨n1.keeps.get (ok.base _ _ h1), h2⟩, wpAny_call ?_⟩)
  exact h a o fd K1 vs kvs s1 h1 h2 h3 n1 r1 k1
theorem ev_call {f : Str} {i : Nat} {p pos : Pos} {args : List Expr} {keywords : List Keyword} {ds : List D} {kw : List (Str × D)} {d : D} (hf : (f, i) ∈ fnTab) (ha : EvArgs prog w c args keywords ds kw) (hs : Spec prog w c.A i ds kw d)
    (hk : c.env.kindOf f = some .globalImplicit := by rfl) (hd : (f == ("__debug__" : Str)) = false := by decide) : Ev prog w c (.Call (.Name f p) args keywords pos) d := fun K s Q E ok q =>
  call_road ok hf ha (fun a o fd K1 vs kvs s1 h1 h2 h3 n1 r1 k1 => hs c.B c.KB a o fd K1 s1 vs kvs _ ok.mod (ok.kb.trans n1.sub) h1 h2 h3 (fun b o e => n1.keeps.get (ok.base b o e)) n1.inH r1 k1 fun K2 v s2 n2 r2 => q K2 v s2 (n1.trans n2) r2) hk hd
theorem evn_call {f : Str} {i : Nat} {p pos : Pos} {args : List Expr} {keywords : List Keyword} {ds : List D} {kw : List (Str × D)} {d : D} (hf : (f, i) ∈ fnTab) (ha : EvArgs prog w c args keywords ds kw) (hs : SpecN prog w c.A i ds kw d)
    (hk : c.env.kindOf f = some .globalImplicit := by rfl) (hd : (f == ("__debug__" : Str)) = false := by decide) : EvN prog w c (.Call (.Name f p) args keywords pos) d := fun K s Q E ok q =>
  call_road ok hf ha (fun a o fd K1 vs kvs s1 h1 h2 h3 n1 r1 k1 => hs c.B c.KB a o fd K1 s1 vs kvs _ ok.mod (ok.kb.trans n1.sub) h1 h2 h3 (fun b o e => n1.keeps.get (ok.base b o e)) n1.inH r1 k1 fun K2 v s2 n2 hf hn r2 => q K2 v s2 (n1.trans n2) (n1.keeps.none hf) hn r2) hk hd
end
end Mine
namespace Mine

/-! ## steps that write at W alone -/
structure Stp (W : List Addr) (K : KM) (s : Shared) (K' : KM) (s' : Shared) : Prop where
  same : ∃ h' tk, s' = { s with heap := h', toks := tk }
  kept : ∀ b o, b ∉ W → s.heap.get? b = some o → s'.heap.get? b = some o
  sub : Sub K K'
  inH : InH K' s'.heap
  fresh : ∀ a o, K' a = some o → K a = none → s.heap.get? a = none
  out : ∀ b ∈ W, K' b = none
theorem Stp.refl {W : List Addr} {K : KM} {s : Shared} (h : InH K s.heap) (ho : ∀ b ∈ W, K b = none) : Stp W K s K s :=
  ⟨⟨_, _, rfl⟩, fun _ _ _ e => e, .refl K, h, fun a o h1 h2 => (by rw [h1] at h2; cases h2), ho⟩
theorem Stp.trans {W : List Addr} {K K' K'' : KM} {s s' s'' : Shared} (a : Stp W K s K' s') (b : Stp W K' s' K'' s'') : Stp W K s K'' s'' := by
  refine ⟨?_, fun x o hx e => b.kept x o hx (a.kept x o hx e), a.sub.trans b.sub, b.inH, fun x o h1 h2 => ?_, b.out⟩
  · obtain ⟨h1, t1, rfl⟩ := a.same
    obtain ⟨h2, t2, rfl⟩ := b.same
    exact ⟨h2, t2, rfl⟩
  · cases q : K' x with
    | some o' => exact a.fresh x o' q h2
    | none =>
      have q' := b.fresh x o h1 q
      cases e : s.heap.get? x with
      | none => rfl
      | some o' =>
        by_cases hx : x ∈ W
        · rw [b.out x hx] at h1; cases h1
        · rw [a.kept x o' hx e] at q'; cases q'
theorem Stp.ofNext {W : List Addr} {K K' : KM} {s s' : Shared} (n : Next K s K' s') (hW : ∀ b ∈ W, K b = none ∧ ∃ o, s.heap.get? b = some o) : Stp W K s K' s' :=
  ⟨let ⟨h, t, e, _⟩ := n.keeps; ⟨h, t, e⟩, fun b o _ e => n.keeps.get e, n.sub, n.inH, n.fresh, fun b hb => let ⟨h1, o, h2⟩ := hW b hb; n.notIn h1 h2⟩
theorem Stp.weaken {W W' : List Addr} {K K' : KM} {s s' : Shared} (a : Stp W K s K' s') (hs : ∀ b ∈ W, b ∈ W') (hW : ∀ b ∈ W', K b = none ∧ ∃ o, s.heap.get? b = some o) : Stp W' K s K' s' := by
  refine ⟨a.same, fun b o hb e => a.kept b o (fun h => hb (hs b h)) e, a.sub, a.inH, a.fresh, fun b hb => ?_⟩
  obtain ⟨h1, o, h2⟩ := hW b hb
  cases q : K' b with
  | none => rfl
  | some o' => have := a.fresh b o' q h1; rw [h2] at this; cases this
theorem Stp.toNext {W : List Addr} {K K' : KM} {s s' : Shared} (a : Stp W K s K' s') (hW : ∀ b ∈ W, s.heap.get? b = none) : Next K s K' s' := by
  obtain ⟨h', tk, rfl⟩ := a.same
  exact ⟨⟨h', tk, rfl, fun b o e => a.kept b o (fun h => by rw [hW b h] at e; cases e) e⟩, a.sub, a.inH, a.fresh⟩
theorem Stp.alive {W : List Addr} {K K' : KM} {s s' : Shared} (a : Stp W K s K' s') {b : Addr} (hb : b ∉ W) (h : ∃ o, s.heap.get? b = some o) : ∃ o, s'.heap.get? b = some o := let ⟨o, e⟩ := h; ⟨o, a.kept b o hb e⟩
theorem Stp.mk' {W : List Addr} {K : KM} {s : Shared} {h' : Heap} {tk : Nat} (hK : InH K s.heap) (hW : ∀ b ∈ W, K b = none) (k : ∀ b o, b ∉ W → s.heap.get? b = some o → h'.get? b = some o) : Stp W K s K { s with heap := h', toks := tk } :=
  ⟨⟨_, _, rfl⟩, k, .refl K, fun a o e => k a o (fun h => by rw [hW a h] at e; cases e) (hK a o e), fun a o h1 h2 => (by rw [h1] at h2; cases h2), hW⟩

/-! ## iterators -/
structure It (prog : Program) (w : World) (A : Around) (tgt : Expr) (I : Addr) (W : List Addr) (xs : List D) (St : Nat → KM → Heap → Prop) : Prop where
  live : ∀ i K h, St i K h → ∀ b ∈ W, ∃ o, h.get? b = some o
  frame : ∀ i K K' h h', St i K h → Sub K K' → InH K' h' → (∀ b ∈ W, ∀ o, h.get? b = some o → h'.get? b = some o) → St i K' h'
  item : ∀ i d K (s : Shared) (Q : Value → Shared → Prop) (E : Value → Shared → Prop), xs[i]? = some d → St i K s.heap → InH K s.heap → (∀ b ∈ W, K b = none) →
    (∀ K' v s', Stp W K s K' s' → St (i + 1) K' s'.heap → Rep prog w K' v d → Q v s') →
    wpAny (model prog w) A (pyNext (.ref I)) (fun r s1 => ∃ v, r = some v ∧ wpAny (model prog w) A (letOwnedTupleGo tgt (.ref I) v) (fun _ s2 => Q v s2) E s1) E s
  done : ∀ K (s : Shared) (Q : Option Value → Shared → Prop) (E : Value → Shared → Prop), St xs.length K s.heap → InH K s.heap → (∀ b ∈ W, K b = none) → (∀ s', Stp W K s K s' → Q none s') → wpAny (model prog w) A (pyNext (.ref I)) Q E s
  self : ∀ i K (s : Shared) (Q : Value → Shared → Prop) (E : Value → Shared → Prop), St i K s.heap → Q (.ref I) s → wpAny (model prog w) A (pyIter (.ref I)) Q E s

theorem It.of_walks {prog : Program} {w : World} {A : Around} {tgt : Expr} {I : Addr} {fp wr : List Addr} {n : Nat} {P : Nat → Value → Prop} {St : Nat → Heap → Prop} {xs : List D} {K₀ : KM} (Wk : Walks prog w A I fp wr n P St) (hn : n = xs.length)
    (hfp : ∀ b ∈ fp, b ∈ wr ∨ ∃ o, K₀ b = some o) (hP : ∀ i v d, P i v → xs[i]? = some d → Rep prog w K₀ v d) (hl : ∀ i h, St i h → ∀ b ∈ wr, ∃ o, h.get? b = some o)
    (hgo : ∀ i (s : Shared) v (Q : Unit → Shared → Prop) (E : Value → Shared → Prop), St i s.heap → Q () s → wpAny (model prog w) A (letOwnedTupleGo tgt (.ref I) v) Q E s) :
    It prog w A tgt I wr xs (fun i K h => St i h ∧ Sub K₀ K ∧ InH K h) where
  live := fun i K h st b hb => hl i h st.1 b hb
  frame := fun i K K' h h' st hs hK' hk => ⟨Wk.frame i h h' st.1 fun b hb o e => by
    rcases hfp b hb with h1 | ⟨o', h1⟩
    · exact hk b h1 o e
    · have e1 := st.2.2 b o' (st.2.1 b o' h1)
      rw [e1] at e; cases e
      exact hK' b _ (hs b _ (st.2.1 b _ h1)), st.2.1.trans hs, hK'⟩
  item := fun i d K s Q E hi st hK hW q => by
    have hlt : i < n := by rw [hn]; exact (List.getElem?_eq_some_iff.mp hi).1
    refine Wk.item i s _ E hlt st.1 fun v h' tk hPv st' hk => ⟨v, rfl, ?_⟩
    have stp : Stp wr K s K { s with heap := h', toks := tk } := .mk' hK hW hk
    exact hgo (i + 1) _ v _ E st' (q K v _ stp ⟨st', st.2.1, stp.inH⟩ ((hP i v d hPv hi).mono st.2.1))
  done := fun K s Q E st hK hW q => Wk.done s Q E (hn ▸ st.1) fun h' tk hk => q _ (.mk' hK hW hk)
  self := fun i K s Q E st q => Wk.self i s Q E st.1 q

theorem go_name {x : Str} {p : Pos} {it v : Value} : letOwnedTupleGo (.Name x p) it v = pure () := rfl
theorem go_plain {prog : Program} {w : World} {A : Around} {tgt : Expr} {I : Addr} {o : Obj} {n : String} {v : Value} {s : Shared} {Q : Unit → Shared → Prop} {E : Value → Shared → Prop} (ho : s.heap.get? I = some o) (hc : o.cls = .type n)
    (hn : ["enumerate", "zip", "dict_itemiterator", "dict_reverseitemiterator", "odict_iterator", "itertools.zip_longest", "itertools.pairwise"].contains n = false) (h : Q () s) : wpAny (model prog w) A (letOwnedTupleGo tgt (.ref I) v) Q E s := by
  unfold letOwnedTupleGo
  split
  all_goals first
    | exact wpAny_pure h
    | (split
       · rename_i r a he
         cases he
         refine wpAny_bind (wpAny_load ho ?_)
         split
         · rename_i n' vs hc' hd'
           rw [hc] at hc'
           cases hc'
           rw [hn]
           exact wpAny_pure h
         · exact wpAny_pure h
       · exact wpAny_pure h)

def EvIt (prog : Program) (w : World) (c : Cx) (tgt : Expr) (e : Expr) (xs : List D) : Prop :=
  ∀ (K : KM) (s : Shared) (Q : Value → Shared → Prop) (E : Value → Shared → Prop), Ok prog w c K s →
    (∀ K' s' I W St, Next K s K' s' → It prog w c.A tgt I W xs St → St 0 K' s'.heap → (∀ b ∈ W, K' b = none ∧ s.heap.get? b = none) → xs.length ≤ lim → Q (.ref I) s') →
    wpAny (model prog w) c.A (eval e c.env) (fun x s1 => wpAny (model prog w) c.A (pyIter x) Q E s1) E s

section
variable {prog : Program} {w : World} {c : Cx}
theorem evIt_list {e tgt : Expr} {ds : List D} (h : Ev prog w c e (.list ds)) : EvIt prog w c tgt e ds := fun K s Q E ok q => by
  refine h K s _ E ok fun K1 v s1 n1 r1 => ?_
  cases r1 with
  | @list a o vs n _ h1 h2 h3 h4 h5 =>
    have ho := n1.inH _ _ h1
    have hl : s1.heap.IsList a vs.toArray := ⟨o, ho, h2, n, h3⟩
    have hne : a ≠ s1.heap.objs.size := Nat.ne_of_lt (Heap.lt_size ho)
    refine wpAny_pyIter_list hl ?_
    have n2 : Next K1 s1 K1 { s1 with heap := s1.heap.push { cls := .type "list_iterator", data := .fields #[.ref a, .int 0 0] } } := .keep n1.inH (kp_push s1 _)
    have hI := get_size s1.heap
    refine q K1 _ s1.heap.objs.size [s1.heap.objs.size] _ (n1.trans n2) (It.of_walks (K₀ := K1) (Walks.list ok.hand s1.heap.objs.size a hne vs.toArray) (by rw [List.size_toArray, h4.length]) ?_ ?_ ?_ ?_) ⟨⟨⟨_, Heap.get?_push_size _ rfl, rfl, rfl⟩, hl.push _⟩, .refl _, n2.inH⟩ ?_ h5
    · intro b hb
      rcases List.mem_cons.mp hb with rfl | hb
      · exact .inl (by simp)
      · rcases List.mem_cons.mp hb with rfl | hb
        · exact .inr ⟨o, h1⟩
        · cases hb
    · intro i v d hP hd
      obtain ⟨v', e1, r⟩ := h4.get hd
      have : vs[i]? = some v := by simpa using hP
      rw [this] at e1; cases e1; exact r
    · rintro i h ⟨⟨o', e1, _⟩, _⟩ b hb
      rcases List.mem_cons.mp hb with rfl | hb
      · exact ⟨o', e1⟩
      · cases hb
    · rintro i s' v Q' E' ⟨⟨o', e1, e2, _⟩, _⟩ hq
      exact go_plain e1 e2 (by decide) hq
    · intro b hb
      rcases List.mem_cons.mp hb with rfl | hb
      · exact ⟨none_of_fresh n1.inH hI, n1.keeps.none hI⟩
      · cases hb
theorem evIt_tuple {e tgt : Expr} {ds : List D} (h : Ev prog w c e (.tuple ds)) : EvIt prog w c tgt e ds := fun K s Q E ok q => by
  refine h K s _ E ok fun K1 v s1 n1 r1 => ?_
  cases r1 with
  | @tuple a o vs n _ h1 h2 h3 h4 h5 =>
    have ho := n1.inH _ _ h1
    have hl : s1.heap.IsTuple a vs.toArray := ⟨o, ho, h2, n, h3⟩
    have hne : a ≠ s1.heap.objs.size := Nat.ne_of_lt (Heap.lt_size ho)
    refine wpAny_pyIter_tuple hl ?_
    have n2 : Next K1 s1 K1 { s1 with heap := s1.heap.push { cls := .type "tuple_iterator", data := .fields #[.ref a, .int 0 0] } } := .keep n1.inH (kp_push s1 _)
    have hI := get_size s1.heap
    refine q K1 _ s1.heap.objs.size [s1.heap.objs.size] _ (n1.trans n2) (It.of_walks (K₀ := K1) (Walks.tuple ok.hand s1.heap.objs.size a hne vs.toArray) (by rw [List.size_toArray, h4.length]) ?_ ?_ ?_ ?_) ⟨⟨⟨_, Heap.get?_push_size _ rfl, rfl, rfl⟩, hl.push _⟩, .refl _, n2.inH⟩ ?_ h5
    · intro b hb
      rcases List.mem_cons.mp hb with rfl | hb
      · exact .inl (by simp)
      · rcases List.mem_cons.mp hb with rfl | hb
        · exact .inr ⟨o, h1⟩
        · cases hb
    · intro i v d hP hd
      obtain ⟨v', e1, r⟩ := h4.get hd
      have : vs[i]? = some v := by simpa using hP
      rw [this] at e1; cases e1; exact r
    · rintro i h ⟨⟨o', e1, _⟩, _⟩ b hb
      rcases List.mem_cons.mp hb with rfl | hb
      · exact ⟨o', e1⟩
      · cases hb
    · rintro i s' v Q' E' ⟨⟨o', e1, e2, _⟩, _⟩ hq
      exact go_plain e1 e2 (by decide) hq
    · intro b hb
      rcases List.mem_cons.mp hb with rfl | hb
      · exact ⟨none_of_fresh n1.inH hI, n1.keeps.none hI⟩
      · cases hb

/-! ## targets -/
def Puts (prog : Program) (w : World) (A : Around) (env : Env) (tgt : Expr) (d : D) (β : List (Str × D)) : Prop :=
  ∀ (K : KM) (s : Shared) (v : Value) (m : Str → Option Value) (Q : Unit → Shared → Prop) (E : Value → Shared → Prop), s.heap.Ns env.locals m → K env.locals = none → InH K s.heap → Rep prog w K v d →
    (∀ s' m', Stp [env.locals] K s K s' → s'.heap.Ns env.locals m' → (∀ x d, β.lookup x = some d → ∃ v, m' x = some v ∧ Rep prog w K v d) → (∀ x, β.lookup x = none → m' x = m x) → Q () s') →
    wpAny (model prog w) A (assign tgt env v) Q E s
def PutsL (prog : Program) (w : World) (A : Around) (env : Env) (es : List Expr) (ds : List D) (β : List (Str × D)) : Prop :=
  ∀ (K : KM) (s : Shared) (vs : List Value) (m : Str → Option Value) (Q : Unit → Shared → Prop) (E : Value → Shared → Prop), s.heap.Ns env.locals m → K env.locals = none → InH K s.heap → All prog w K vs ds →
    (∀ s' m', Stp [env.locals] K s K s' → s'.heap.Ns env.locals m' → (∀ x d, β.lookup x = some d → ∃ v, m' x = some v ∧ Rep prog w K v d) → (∀ x, β.lookup x = none → m' x = m x) → Q () s') →
    wpAny (model prog w) A (assignInOrder ((assignEach es env).map (·.2)) vs) Q E s
theorem only {K : KM} {L : Addr} (h : K L = none) : ∀ b ∈ [L], K b = none := fun b hb => by
  rcases List.mem_cons.mp hb with rfl | hb
  · exact h
  · cases hb
theorem lookup_one {x : Str} {d : D} {β : List (Str × D)} {y : Str} : ((x, d) :: β).lookup y = if y = x then some d else β.lookup y := by
  rw [List.lookup_cons]
  by_cases h : y = x
  · subst h; simp
  · have : (y == x) = false := by simpa using h
    rw [this, if_neg h]
theorem puts_name {A : Around} {env : Env} {x : Str} {p : Pos} {d : D} (hk : env.kindOf x = some .local) (hp : (env.scope.kind == .class || (env.scope.kind == .module && env.locals != env.globals)) = false) : Puts prog w A env (.Name x p) d [(x, d)] := fun K s v m Q E hn hK hI r q => by
  refine wpAny_assign_Name (wpAny_storeName_local hk hn (fun h' hn' hs' => ?_) hp)
  refine q _ _ (.mk' hI (only hK) fun b o hb e => hs'.extBut b o (fun h => hb (by simp [h])) e) hn' (fun y d' hy => ?_) fun y hy => ?_
  · rw [lookup_one] at hy
    by_cases hyx : y = x
    · subst hyx; rw [if_pos rfl] at hy; cases hy; exact ⟨v, by simp, r⟩
    · rw [if_neg hyx] at hy; cases hy
  · rw [lookup_one] at hy
    by_cases hyx : y = x
    · rw [if_pos hyx] at hy; cases hy
    · simp [hyx]
theorem putsL_nil {A : Around} {env : Env} : PutsL prog w A env [] [] [] := fun K s vs m Q E hn hK hI r q => by
  cases r
  show wpAny _ _ (pure ()) Q E s
  exact wpAny_pure (q s m (.refl hI (only hK)) hn (fun x d h => by cases h) fun _ _ => rfl)
theorem putsL_cons {A : Around} {env : Env} {x : Str} {p : Pos} {d : D} {es : List Expr} {ds : List D} {β : List (Str × D)} (hk : env.kindOf x = some .local) (hp : (env.scope.kind == .class || (env.scope.kind == .module && env.locals != env.globals)) = false)
    (h : PutsL prog w A env es ds β) (hx : β.lookup x = none) : PutsL prog w A env (.Name x p :: es) (d :: ds) ((x, d) :: β) := fun K s vs m Q E hn hK hI r q => by
  cases r with
  | @cons v _ us _ r rs =>
    show wpAny _ _ (holding us (assign (.Name x p) env v) >>= fun _ => assignInOrder ((assignEach es env).map (·.2)) us) Q E s
    refine wpAny_bind (wpAny_holding (puts_name hk hp K s v m _ E hn hK hI r fun s1 m1 st1 hn1 hv1 ho1 => h K s1 us m1 _ E hn1 hK st1.inH rs fun s2 m2 st2 hn2 hv2 ho2 => ?_))
    refine q s2 m2 (st1.trans st2) hn2 (fun y d' hy => ?_) fun y hy => ?_
    · rw [lookup_one] at hy
      by_cases hyx : y = x
      · subst hyx
        rw [if_pos rfl] at hy; cases hy
        obtain ⟨v', h1, h2⟩ := hv1 y d (by rw [lookup_one, if_pos rfl])
        exact ⟨v', (ho2 y hx).trans h1, h2⟩
      · rw [if_neg hyx] at hy; exact hv2 y d' hy
    · rw [lookup_one] at hy
      by_cases hyx : y = x
      · rw [if_pos hyx] at hy; cases hy
      · rw [if_neg hyx] at hy
        rw [ho2 y hy, ho1 y (by rw [lookup_one, if_neg hyx]; rfl)]
theorem each_len : ∀ {es : List Expr} {env : Env}, (assignEach es env).length = es.length
  | [], _ => by unfold assignEach; rfl
  | e :: es, env => by
    have ih := @each_len es env
    unfold assignEach
    split
    all_goals (simp only [List.length_cons]; try omega)
    all_goals (simp_all)

theorem draw_list {A : Around} {E : Value → Shared → Prop} {it t : Addr} {items : Array Value} (hne : t ≠ it) : ∀ (n i : Nat) (s : Shared) (Q : List Value → Shared → Prop), s.heap.IsListIter it t i → s.heap.IsList t items → i + n ≤ items.size →
    (∀ h', h'.IsListIter it t (i + n) → Heap.SameBut it s.heap h' → Q ((items.toList.drop i).take n) { s with heap := h' }) → wpAny (model prog w) A (draw (.ref it) n) Q E s
  | 0, i, s, Q, hit, _, _, hQ => by
    show wpAny _ _ (pure []) Q E s
    exact wpAny_pure (by simpa using hQ s.heap hit (Heap.SameBut.refl ..))
  | n + 1, i, s, Q, hit, ht, hle, hQ => by
    have hlt : i < items.size := by omega
    show wpAny _ _ (pyNext (.ref it) >>= _) Q E s
    refine wpAny_bind (wpAny_pyNext_list_item hit ht (x := items[i]) (by simp [hlt]) fun h₁ hit₁ hs₁ => ?_)
    refine wpAny_bind (wpAny_holding (draw_list hne n (i + 1) _ _ hit₁ (ht.extBut hs₁.extBut hne) (by omega) fun h₂ hit₂ hs₂ => wpAny_pure ?_))
    have hd : items.toList.drop i = items[i] :: items.toList.drop (i + 1) := by simp [List.drop_eq_getElem_cons, hlt]
    have := hQ h₂ (by rw [show i + (n + 1) = i + 1 + n by omega]; exact hit₂) (hs₁.trans hs₂)
    rw [hd, List.take_succ_cons] at this
    exact this
theorem unpackItems_list {A : Around} {E : Value → Shared → Prop} {s : Shared} {t : Addr} {items : Array Value} {Q : List Value → Shared → Prop} (hh : A.handled = none) (ht : s.heap.IsList t items)
    (hQ : ∀ h', Heap.ExtBut s.heap.objs.size s.heap h' → Q items.toList { s with heap := h' }) : wpAny (model prog w) A (unpackItems (.ref t) items.size none) Q E s := by
  have hlt : t ≠ s.heap.objs.size := by obtain ⟨o, ho, _⟩ := ht; exact Nat.ne_of_lt (Heap.lt_size ho)
  unfold unpackItems
  refine wpAny_bind ?_
  · unfold notIterableAtAll
    refine wpAny_bind (wpAny_specialOf ht.typeIs slot_list_iter.lookup ?_)
    refine wpAny_pure ?_
    simp only [Bool.false_eq_true, if_false]
    refine wpAny_bind (wpAny_holding (wpAny_pyIter_list ht ?_))
    refine wpAny_bind (wpAny_holding (draw_list hlt items.size 0 _ _ ⟨_, Heap.get?_push_size _ rfl, rfl, rfl⟩ (ht.push _) (by omega) fun h₁ hit₁ hs₁ => ?_))
    have hall : List.take items.size (List.drop 0 items.toList) = items.toList := by
      rw [List.drop_zero]; exact List.take_of_length_le (by simp)
    rw [hall]
    rw [if_neg (by simp)]
    have ht₁ : h₁.IsList t items := (ht.push _).extBut hs₁.extBut hlt
    refine wpAny_bind (wpAny_holding (wpAny_pyNext_list_end hh hit₁ ht₁ (by simp) fun h₂ he₂ => ?_))
    simp only [Option.isSome_none, Bool.false_eq_true, if_false]
    refine wpAny_pure (hQ h₂ fun b o hb e => he₂ b o hb (hs₁.extBut b o hb (Heap.get?_push_of_some _ e)))
theorem stp_ext {K : KM} {s : Shared} {L : Addr} {h' : Heap} (hI : InH K s.heap) (hL : K L = none) (he : Heap.ExtBut s.heap.objs.size s.heap h') : Stp [L] K s K { s with heap := h' } :=
  .mk' (tk := s.toks) hI (only hL) fun b o _ e => he b o (Nat.ne_of_lt (Heap.lt_size e)) e
theorem puts_tuple {A : Around} {env : Env} {es : List Expr} {k : Nat} {p : Pos} {ds : List D} {β : List (Str × D)} (hh : A.handled = none) (h : PutsL prog w A env es ds β) (hn : es.length = ds.length) (hst : (assignEach es env).findIdx? (·.1) = none) :
    Puts prog w A env (.Tuple es k p) (.tuple ds) β := fun K s v m Q E hns hK hI r q => by
  cases r with
  | @tuple a o vs n _ h1 h2 h3 h4 h5 =>
    have ho := hI _ _ h1
    have ht : s.heap.IsTuple a vs.toArray := ⟨o, ho, h2, n, h3⟩
    have hlen := h4.length
    refine wpAny_assign_Tuple hh ht (by rw [each_len, List.size_toArray]; omega) hst fun h' he => ?_
    have st := stp_ext hI hK he
    obtain ⟨oL, hoL⟩ : ∃ oL, s.heap.get? env.locals = some oL := let ⟨oL, _, _, x, _⟩ := hns; ⟨oL, x⟩
    exact h K _ vs m Q E (hns.at' fun o e => he _ o (Nat.ne_of_lt (Heap.lt_size e)) e) hK st.inH h4 fun s' m' st' hn' hv' ho' => q s' m' (st.trans st') hn' hv' ho'
theorem puts_list {A : Around} {env : Env} {es : List Expr} {k : Nat} {p : Pos} {ds : List D} {β : List (Str × D)} (hh : A.handled = none) (h : PutsL prog w A env es ds β) (hn : es.length = ds.length) (hst : (assignEach es env).findIdx? (·.1) = none) :
    Puts prog w A env (.Tuple es k p) (.list ds) β := fun K s v m Q E hns hK hI r q => by
  cases r with
  | @list a o vs n _ h1 h2 h3 h4 h5 =>
    have ho := hI _ _ h1
    have ht : s.heap.IsList a vs.toArray := ⟨o, ho, h2, n, h3⟩
    have hlen := h4.length
    rw [arm_assign_Tuple]
    refine wpAny_bind (wpAny_standAt ?_)
    unfold unpack
    rw [hst, show (assignEach es env).length = vs.toArray.size by rw [each_len, List.size_toArray]; omega]
    refine wpAny_bind (wpAny_holding (unpackItems_list hh ht fun h' he => ?_))
    have st := stp_ext hI hK he
    exact h K _ vs m Q E (hns.at' fun o e => he _ o (Nat.ne_of_lt (Heap.lt_size e)) e) hK st.inH h4 fun s' m' st' hn' hv' ho' => q s' m' (st.trans st') hn' hv' ho'
end
end Mine
namespace Mine
section
variable {prog : Program} {w : World} {c : Cx}

/-! ## calls of built-ins by name -/
theorem type_road {K : KM} {s : Shared} (ok : Ok prog w c K s) {f : Str} {T : String} {p pos : Pos} {e : Expr} {args : List Expr} {ds : List D} {Q : Value → Shared → Prop} {E : Value → Shared → Prop} (hf : (f, .type T) ∈ biTab) (h : EvL prog w c (e :: args) ds)
    (q : ∀ K1 vs s1, Next K s K1 s1 → All prog w K1 vs ds → wpAny (model prog w) c.A (call (.type T) vs) Q E s1)
    (hk : c.env.kindOf f = some .globalImplicit) (hd : (f == ("__debug__" : Str)) = false)
    (he : starEach (e :: args) c.env = (false, eval e c.env) :: starEach args c.env) (hplain : (backTo pos (starEach args c.env)).any (·.1) = false) : wpAny (model prog w) c.A (eval (.Call (.Name f p) (e :: args) [] pos) c.env) Q E s := by
  refine wpAny_Call_Name_kw (load_bi ok hf hk hd p ?_)
  exact PyProof.Rows.callWith_type1 (h pos K s _ E ok fun K1 vs s1 n1 r1 => q K1 vs s1 n1 r1) he hplain
theorem func_road {K : KM} {s : Shared} (ok : Ok prog w c K s) {f : Str} {T : String} {p pos : Pos} {e : Expr} {args : List Expr} {ds : List D} {Q : Value → Shared → Prop} {E : Value → Shared → Prop} (hf : (f, .builtin T) ∈ biTab) (h : EvL prog w c (e :: args) ds)
    (q : ∀ K1 vs s1, Next K s K1 s1 → All prog w K1 vs ds → wpAny (model prog w) c.A (call (.builtin T) vs) Q E s1)
    (hk : c.env.kindOf f = some .globalImplicit) (hd : (f == ("__debug__" : Str)) = false)
    (he : starEach (e :: args) c.env = (false, eval e c.env) :: starEach args c.env) (hplain : (backTo pos (starEach args c.env)).any (·.1) = false) : wpAny (model prog w) c.A (eval (.Call (.Name f p) (e :: args) [] pos) c.env) Q E s := by
  refine wpAny_Call_Name_kw (load_bi ok hf hk hd p ?_)
  have h1 := h pos K s _ E ok fun K1 vs s1 n1 r1 => q K1 vs s1 n1 r1
  rw [he] at h1 ⊢
  exact callWith_builtin (by show (false || (backTo pos (starEach args c.env)).any (·.1)) = false; rw [hplain]; rfl) (evalArgs_plain h1)

/-! ## range, enumerate, items -/
def upD (n : Int) : List D := (List.range n.toNat).map fun (k : Nat) => D.int (k : Int)
theorem none_ge {s : Shared} {a : Addr} (h : s.heap.objs.size ≤ a) : s.heap.get? a = none := by
  cases e : s.heap.get? a with
  | none => rfl
  | some o => exact absurd (Heap.lt_size e) (Nat.not_lt.mpr h)
theorem in_one {a : Addr} {p : Addr → Prop} (h : p a) : ∀ b ∈ [a], p b := fun b hb => by
  rcases List.mem_cons.mp hb with rfl | hb
  · exact h
  · cases hb
theorem in_two {a a' : Addr} {p : Addr → Prop} (h : p a) (h' : p a') : ∀ b ∈ [a, a'], p b := fun b hb => by
  rcases List.mem_cons.mp hb with rfl | hb
  · exact h
  · exact in_one h' b hb
theorem up_get {n : Int} {i : Nat} {d : D} (h : (upD n)[i]? = some d) : d = .int (i : Int) := by
  unfold upD at h
  rw [List.getElem?_map] at h
  rcases Nat.lt_or_ge i n.toNat with h' | h'
  · rw [List.getElem?_range h'] at h; cases h; rfl
  · rw [List.getElem?_eq_none (by simpa using h')] at h; cases h
theorem evIt_range {tgt e : Expr} {p pos : Pos} {n : Int} (h : Ev prog w c e (.int n)) (hn : n.toNat ≤ lim) (hlo : -(2 ^ 62) ≤ n)
    (hk : c.env.kindOf "range" = some .globalImplicit := by rfl) (he : starEach [e] c.env = (false, eval e c.env) :: starEach [] c.env := by rfl) : EvIt prog w c tgt (.Call (.Name "range" p) [e] [] pos) (upD n) := fun K s Q E ok q => by
  refine type_road ok (T := "range") (ds := [.int n]) (by simp [biTab]) (evL_cons h evL_nil he) (fun K1 vs s1 n1 r1 => ?_) hk (by decide) he rfl
  cases r1 with
  | cons r r' =>
  cases r'
  cases r with
  | int _ t =>
  have hn' : n < 2 ^ 62 := by have : lim = 4096 := rfl; omega
  refine call_range_1 (wpAny_pyIter_range (IsRange.new ..) (small_one (by decide) (by decide) (by omega) hn') ?_)
  have hsz : Builtin.Range.rangeSize 0 n 1 = (n.toNat : Int) := by rw [rangeSize_one]; split <;> omega
  have n2 : Next K1 s1 K1 { s1 with heap := (s1.heap.push { cls := .type "range", data := .fields #[.int 0 s1.toks, .int n t, .int 1 (s1.toks + 1)] }).push { cls := .type "range_iterator", data := .fields #[rawInt 0, rawInt (Builtin.Range.rangeSize 0 n 1), rawInt 1] }, toks := s1.toks + 1 + 1 } :=
    .keep n1.inH (.of _ fun _ _ e => Heap.get?_push_of_some _ (Heap.get?_push_of_some _ e))
  have hI : s1.heap.get? (s1.heap.push { cls := .type "range", data := .fields #[.int 0 s1.toks, .int n t, .int 1 (s1.toks + 1)] }).objs.size = none := none_ge (by rw [Heap.size_push]; exact Nat.le_succ _)
  refine q K1 _ _ [_] _ (n1.trans n2) (It.of_walks (K₀ := K1) (xs := upD n) (Walks.range ok.hand _ 0 1 n.toNat) (by simp [upD]) ?_ ?_ ?_ ?_) ⟨?_, .refl _, n2.inH⟩ (in_one ⟨none_of_fresh n1.inH hI, n1.keeps.none hI⟩) (by simpa [upD] using hn)
  · exact in_one (.inl (by simp))
  · rintro i v d ⟨t', rfl⟩ hd
    have := up_get hd
    subst this
    have e1 : (0 + (i : Int) * 1) = i := by omega
    rw [e1]; exact .int _ _
  · rintro i h hh
    exact in_one ⟨_, hh⟩
  · rintro i s' v Q' E' hh hq
    exact go_plain hh rfl (by decide) hq
  · have e1 : (0 + ((0 : Nat) : Int) * 1) = 0 := by simp
    have e2 : ((n.toNat : Int) - ((0 : Nat) : Int)) = Builtin.Range.rangeSize 0 n 1 := by rw [hsz]; simp
    show IsRangeIter _ _ (0 + ((0 : Nat) : Int) * 1) ((n.toNat : Int) - ((0 : Nat) : Int)) 1
    rw [e1, e2]
    exact Heap.get?_push_size _ rfl

theorem It.of_walksT {A : Around} {elts : List Expr} {k : Nat} {tp : Pos} {I : Addr} {fp wr : List Addr} {n : Nat} {Pt : Nat → Array Value → Prop} {St : Nat → Heap → Prop} {Mid : Nat → Addr → Heap → Prop} {xs : List D} {K₀ : KM} (Wk : WalksT prog w A I fp wr n Pt St Mid) (hn : n = xs.length)
    (hfp : ∀ b ∈ fp, b ∈ wr ∨ ∃ o, K₀ b = some o) (hP : ∀ i vals d, Pt i vals → xs[i]? = some d → ∃ ds, d = .tuple ds ∧ All prog w K₀ vals.toList ds ∧ ds.length ≤ lim) (hl : ∀ i h, St i h → ∀ b ∈ wr, ∃ o, h.get? b = some o) :
    It prog w A (.Tuple elts k tp) I wr xs (fun i K h => St i h ∧ Sub K₀ K ∧ InH K h) where
  live := fun i K h st b hb => hl i h st.1 b hb
  frame := fun i K K' h h' st hs hK' hk => ⟨Wk.frame i h h' st.1 fun b hb o e => by
    rcases hfp b hb with h1 | ⟨o', h1⟩
    · exact hk b h1 o e
    · have e1 := st.2.2 b o' (st.2.1 b o' h1)
      rw [e1] at e; cases e
      exact hK' b _ (hs b _ (st.2.1 b _ h1)), st.2.1.trans hs, hK'⟩
  item := fun i d K s Q E hi st hK hW q => by
    have hlt : i < n := by rw [hn]; exact (List.getElem?_eq_some_iff.mp hi).1
    refine Wk.item i s _ E hlt st.1 fun T vals h' tk hPv hT hIT hM hk => ⟨.ref T, rfl, ?_⟩
    refine Wk.go elts k tp i T _ _ E hM fun h'' st' hk' => ?_
    obtain ⟨ds, rfl, hall, hlim⟩ := hP i vals _ hPv hi
    obtain ⟨oT, hoT, hcT, nT, hdT⟩ := hIT
    have hTW : T ∉ wr := Wk.apart i T _ hM
    have hTn : s.heap.get? T = none := none_ge hT
    have hKT : K T = none := none_of_fresh hK hTn
    have hT2 : h''.get? T = some oT := hk' T oT hTW hoT
    have a1 : Stp wr K s K { s with heap := h'', toks := tk } := .mk' hK hW fun b o hb e => hk' b o hb (hk b o hb e)
    have a2 : Stp wr K s (K.set T oT) { s with heap := h'', toks := tk } :=
      ⟨a1.same, a1.kept, KM.sub_set hKT, KM.in_set a1.inH hT2, fun b o h1 h2 => (by
        by_cases hb : b = T
        · subst hb; exact hTn
        · simp [KM.set, hb] at h1; rw [h1] at h2; cases h2), fun b hb => (by
        have : b ≠ T := fun e => hTW (e ▸ hb)
        simp [KM.set, this]; exact hW b hb)⟩
    have hv : vals = vals.toList.toArray := by simp
    rw [hv] at hdT
    exact q (K.set T oT) (.ref T) _ a2 ⟨st', st.2.1.trans (KM.sub_set hKT), a2.inH⟩ (.tuple (KM.set_self _ _ _) hcT hdT (hall.mono (st.2.1.trans (KM.sub_set hKT))) hlim)
  done := fun K s Q E st hK hW q => Wk.done s Q E (hn ▸ st.1) fun h' tk hk => q _ (.mk' hK hW hk)
  self := fun i K s Q E st q => Wk.self i s Q E st.1 q

def enumD (ds : List D) : List D := (List.range ds.length).zipWith (fun k d => D.tuple [.int (k : Nat), d]) ds
theorem enum_get {ds : List D} {i : Nat} {d : D} (h : (enumD ds)[i]? = some d) : ∃ x, ds[i]? = some x ∧ d = .tuple [.int i, x] := by
  unfold enumD at h
  rw [List.getElem?_zipWith] at h
  rcases Nat.lt_or_ge i ds.length with h' | h'
  · rw [List.getElem?_range h', List.getElem?_eq_getElem h'] at h
    cases h
    exact ⟨_, List.getElem?_eq_getElem h', rfl⟩
  · rw [List.getElem?_eq_none (l := List.range ds.length) (by simpa using h')] at h; cases h
theorem evIt_enum {elts : List Expr} {k : Nat} {tp : Pos} {e : Expr} {p pos : Pos} {ds : List D} (h : Ev prog w c e (.list ds))
    (hk : c.env.kindOf "enumerate" = some .globalImplicit := by rfl) (he : starEach [e] c.env = (false, eval e c.env) :: starEach [] c.env := by rfl) : EvIt prog w c (.Tuple elts k tp) (.Call (.Name "enumerate" p) [e] [] pos) (enumD ds) := fun K s Q E ok q => by
  refine type_road ok (T := "enumerate") (ds := [.list ds]) (by simp [biTab]) (evL_cons h evL_nil he) (fun K1 vs s1 n1 r1 => ?_) hk (by decide) he rfl
  cases r1 with
  | cons r r' =>
  cases r'
  cases r with
  | @list a o us n _ h1 h2 h3 h4 h5 h6 =>
  obtain ⟨_, dd, _, sl⟩ := o
  obtain ⟨h6, h7⟩ := h6
  simp only at h2 h3 h6 h7
  subst h2 h3 h6 h7
  have ho := n1.inH _ _ h1
  have hlt : a < s1.heap.objs.size := Heap.lt_size ho
  refine call_enumerate_1 ho fun h' hE hit hz hk => ?_
  refine wpAny_pyIter_enum hE ?_
  have n2 : Next K1 s1 K1 { s1 with heap := h' } := .keep n1.inH (.of s1.toks hk)
  have hl : h'.IsList a us.toArray := ⟨_, hk _ _ ho, rfl, n, rfl⟩
  have f1 : s1.heap.get? (s1.heap.objs.size + 1) = none := none_ge (Nat.le_succ _)
  have f2 : s1.heap.get? s1.heap.objs.size = none := get_size _
  refine q K1 _ _ [_, _] _ (n1.trans n2) (It.of_walksT (K₀ := K1) (xs := enumD ds) (WalksT.enumerate ok.hand (s1.heap.objs.size + 1) s1.heap.objs.size a (Nat.succ_ne_self _) (Nat.ne_of_lt (Nat.lt_succ_of_lt hlt)) (Nat.ne_of_lt hlt) us.toArray) ?_ ?_ ?_ ?_) ⟨⟨⟨.none, hE⟩, hit, hl⟩, .refl _, n2.inH⟩
    (in_two ⟨none_of_fresh n1.inH f1, n1.keeps.none f1⟩ ⟨none_of_fresh n1.inH f2, n1.keeps.none f2⟩) (by simpa [enumD] using h5)
  · simp [enumD, h4.length]
  · intro b hb
    rcases List.mem_cons.mp hb with rfl | hb
    · exact .inl (by simp)
    · rcases List.mem_cons.mp hb with rfl | hb
      · exact .inl (by simp)
      · exact in_one (p := fun b => b ∈ _ ∨ ∃ o, K1 b = some o) (.inr ⟨_, h1⟩) b hb
  · rintro i vals d ⟨t, x, hx, rfl⟩ hd
    obtain ⟨y, hy, rfl⟩ := enum_get hd
    obtain ⟨v', e1, r⟩ := h4.get hy
    have : us[i]? = some x := by simpa using hx
    rw [this] at e1; cases e1
    exact ⟨_, rfl, .cons (.int _ _) (.cons r .nil), by show (2 : Nat) ≤ 4096; omega⟩
  · rintro i h ⟨⟨old, hE'⟩, ⟨o', e1, _⟩, _⟩
    exact in_two ⟨_, hE'⟩ ⟨_, e1⟩

/-! ## items of a dict -/
def keyD : Key → D
  | .s x => .str x
  | .b x => .bytes x
theorem key_rep {K : KM} {k : Key} {v : Value} (h : (keyKind prog w).is k v = true) : Rep prog w K v (keyD k) := by
  cases k with
  | s x => obtain ⟨t, rfl⟩ := Value.isStrOf_shape (show Value.isStrOf x v = true from h); exact .str x t
  | b x => obtain ⟨t, rfl⟩ := isBytes_shape (show (bytesKind prog w).is x v = true from h); exact .bytes x t
def itemsD (ks : List Key) (ds : List D) : List D := (ks.zip ds).map fun p => D.tuple [keyD p.1, p.2]
theorem entry_itemiter : entryFor table "dict_itemiterator.__iter__" = some Builtin.«dict_keyiterator.__iter__» :=
  entryFor_alias (id' := "dict_keyiterator.__iter__") (by rw [fastTable_eq_tree]; kernel_rfl) (by first | rfl | decide +kernel | (unfold String.splitOn; simp +decide [String.splitOnAux])) (by decide +kernel) (by rw [fastTable_eq_tree]; kernel_rfl)
theorem args_itemiter (a : Value) : argsOk "dict_itemiterator.__iter__" ⟨[a], []⟩ := by
  first | kernel_rfl | exact rfl
theorem pyIter_itemiter {A : Around} {s : Shared} {E : Value → Shared → Prop} {it d : Addr} {i n ep : Nat} {ok ov : Value} {Q : Value → Shared → Prop} (hit : IsItemIter s.heap it d i n ep ok ov) (h : Q (.ref it) s) : wpAny (model prog w) A (pyIter (.ref it)) Q E s := by
  have hT : s.TypeIs (.ref it) "dict_itemiterator" := ⟨_, hit, rfl⟩
  refine wpAny_pyIter_slot hT PySem.F.slot_dict_itemiterator_iter (wpAny_call_entry PySem.F.slot_dict_itemiterator_iter hT entry_itemiter ?_ (args_itemiter _))
  show wpAny _ _ (ret (.ref it)) _ _ s
  exact wpAny_pure ⟨_, rfl, "dict_itemiterator", _, hT, PySem.F.slot_dict_itemiterator_next.lookup, h⟩
theorem it_items {A : Around} (hh : A.handled = none) {elts : List Expr} {k : Nat} {tp : Pos} {it d : Addr} {o : Obj} {kvs : List (Key × Value)} {ep : Nat} {ds : List D} {K₀ : KM} (hd : K₀ d = some o) (hat : ∀ h : Heap, h.get? d = some o → h.DictAt (keyKind prog w) d kvs ep) (hne : d ≠ it)
    (hall : All prog w K₀ (kvs.map (·.2)) ds) :
    It prog w A (.Tuple elts k tp) it [it] (itemsD (kvs.map (·.1)) ds) (fun i K h => (∃ ok ov, IsItemIter h it d i kvs.length ep ok ov) ∧ Sub K₀ K ∧ InH K h) where
  live := fun i K h st => in_one (let ⟨⟨_, _, e⟩, _⟩ := st; ⟨_, e⟩)
  frame := fun i K K' h h' st hs hK' hk => by
    obtain ⟨⟨ok, ov, e⟩, h1, h2⟩ := st
    exact ⟨⟨ok, ov, hk it (by simp) _ e⟩, h1.trans hs, hK'⟩
  item := fun i x K s Q E hi st hK hW q => by
    obtain ⟨⟨ok, ov, hit⟩, hs, hin⟩ := st
    have hg := hin d o (hs d o hd)
    have hm := hat _ hg
    simp only [itemsD, List.getElem?_map, Option.map_eq_some_iff] at hi
    obtain ⟨⟨kk, x'⟩, hz, rfl⟩ := hi
    rw [List.getElem?_zip_eq_some] at hz
    obtain ⟨hz1, hz2⟩ := hz
    rw [List.getElem?_map] at hz1
    obtain ⟨⟨kk', v⟩, hkv, rfl⟩ := Option.map_eq_some_iff.mp hz1
    obtain ⟨v', e1, r⟩ := hall.get hz2
    rw [List.getElem?_map, hkv] at e1
    cases e1
    refine wpAny_pyNext_items_item hit hm hkv fun key h' hkey hOut hT hsz hk => ⟨_, rfl, ?_⟩
    refine wpAny_letOwnedTupleGo_items hOut fun h'' hit' hs' => ?_
    have hitlt : it < s.heap.objs.size := Heap.lt_size hit
    have hTne : s.heap.objs.size ≠ it := Nat.ne_of_gt hitlt
    have hTn := get_size s.heap
    have hKT : K s.heap.objs.size = none := none_of_fresh hK hTn
    have hT2 : h''.get? s.heap.objs.size = some { cls := .type "tuple", data := .seq #[key, v] } := (hs'.2 _ hTne).trans hT
    have a1 : Stp [it] K s K { s with heap := h'' } := .mk' (tk := s.toks) hK hW fun b o hb e => (hs'.2 b (fun h => hb (by simp [h]))).trans (hk b o (fun h => hb (by simp [h])) e)
    have a2 : Stp [it] K s (K.set s.heap.objs.size { cls := .type "tuple", data := .seq #[key, v] }) { s with heap := h'' } :=
      ⟨a1.same, a1.kept, KM.sub_set hKT, KM.in_set a1.inH hT2, fun b o h1 h2 => (by
        by_cases hb : b = s.heap.objs.size
        · subst hb; exact hTn
        · simp [KM.set, hb] at h1; rw [h1] at h2; cases h2), in_one (by simp [KM.set, hTne.symm]; exact hW it (by simp))⟩
    refine q _ _ _ a2 ⟨⟨_, _, hit'⟩, hs.trans (KM.sub_set hKT), a2.inH⟩ (.tuple (vs := [key, v]) (KM.set_self _ _ _) rfl rfl (.cons (key_rep hkey) (.cons (r.mono (hs.trans (KM.sub_set hKT))) .nil)) ?_)
    show (2 : Nat) ≤ 4096; omega
  done := fun K s Q E st hK hW q => by
    obtain ⟨⟨ok, ov, hit⟩, hs, hin⟩ := st
    have hg := hin d o (hs d o hd)
    have hlen : (itemsD (kvs.map (·.1)) ds).length = kvs.length := by
      have := hall.length
      simp only [List.length_map] at this
      simp [itemsD, this]
    rw [hlen] at hit
    exact wpAny_pyNext_items_end hh hit (hat _ hg) (by simp) fun h' he => q _ (.mk' (tk := s.toks) hK hW fun b o hb e => he b o (fun h => hb (by simp [h])) e)
  self := fun i K s Q E st q => by
    obtain ⟨⟨ok, ov, hit⟩, _⟩ := st
    exact pyIter_itemiter hit q
theorem evIt_items {elts : List Expr} {k : Nat} {tp : Pos} {e : Expr} {ap pos : Pos} {ks : List Key} {ds : List D} (h : Ev prog w c e (.dict ks ds))
    (hbase : attributeBase e "items" c.env (eval e c.env) = eval e c.env := by rfl) (hline : (ap.endLine == pos.line) = true := by rfl) : EvIt prog w c (.Tuple elts k tp) (.Call (.Attribute e "items" ap) [] [] pos) (itemsD ks ds) := fun K s Q E ok q => by
  refine wpAny_Call_method (T := "dict") (id := "dict.items") hbase rfl hline PySem.F.plainAttrs_dict PySem.F.slot_dict_items PySem.F.type_dict_items (h K s _ E ok fun K1 v s1 n1 r1 => ?_)
  cases r1 with
  | @dict a o kvs _ us _ h1 h2 h3 h4 h5 h6 h7 h8 =>
  subst h4 h5
  have ho := n1.inH _ _ h1
  have hm : s1.heap.DictOf (keyKind prog w) a kvs := Heap.dictOf_iff.mpr ⟨o, ho, h2⟩
  refine ⟨hm.typeIs, fun b hb => ⟨o, by cases hb; exact ho, h8⟩, ?_⟩
  show wpAny _ _ (callWith pos (.builtin "dict.items") [.ref a] [] []) _ E s1
  refine method_meetsIn PySem.F.slot_dict_items PySem.F.entry_dict_items rfl (PySem.evalArgs_none ⟨rfl, hm.typeIs, PySem.F.args_dict_items_1 _, _, meets_dict_items (keyKind prog w) a h3, ⟨kvs, hm⟩, ?_⟩)
  obtain ⟨es, ep, hr⟩ := h2
  have hat : ∀ h : Heap, h.get? a = some o → h.DictAt (keyKind prog w) a kvs ep := fun h hg => ⟨o, es, hg, hr⟩
  show wpAny _ _ (pyIter (.ref s1.heap.objs.size)) _ _ _
  refine wpAny_pyIter_items (knd := keyKind prog w) (d := a) (kvs := kvs) (ep := ep) ⟨_, Heap.get?_push_size _ rfl, rfl, rfl⟩ ((hat _ ho).push _) ?_
  have n2 : Next K1 s1 K1 { s1 with heap := (s1.heap.push { cls := .type "dict_items", data := .fields #[.ref a] }).push { cls := .type "dict_itemiterator", data := .fields #[.none, .bool false, .ref a, .int 0 0, .int kvs.length 0, .int ep 0, .none, .none] } } :=
    .keep n1.inH (.of s1.toks fun _ _ e => Heap.get?_push_of_some _ (Heap.get?_push_of_some _ e))
  have f1 : s1.heap.get? (s1.heap.push { cls := .type "dict_items", data := .fields #[.ref a] }).objs.size = none := none_ge (by rw [Heap.size_push]; exact Nat.le_succ _)
  have hlt : a < s1.heap.objs.size := Heap.lt_size ho
  refine q K1 _ _ [_] _ (n1.trans n2) (it_items ok.hand h1 hat (by rw [Heap.size_push]; exact Nat.ne_of_lt (Nat.lt_succ_of_lt hlt)) h6) ⟨⟨_, _, Heap.get?_push_size _ rfl⟩, .refl _, n2.inH⟩ (in_one ⟨none_of_fresh n1.inH f1, n1.keeps.none f1⟩) ?_
  have e1 := h6.length
  simp only [List.length_map] at e1
  simp [itemsD, e1, h7]
end
end Mine
namespace Mine

/-! ## what a comprehension sees -/
def gath (env : Env) : List (Str × NameKind) → List (Str × Addr) → List (Str × Addr)
  | [], cs => cs
  | (x, k) :: r, cs => gath env r (if k == .free then (match env.cells.lookup x with | some a => (x, a) :: cs | none => cs) else cs)
def closes (env : Env) (scope : Scope) : Bool := scope.names.all fun p => !(p.2 == .free) || (env.cells.lookup p.1).isSome
theorem gath_run {env : Env} : ∀ (names : List (Str × NameKind)) (cs : List (Str × Addr)), (names.all fun p => !(p.2 == .free) || (env.cells.lookup p.1).isSome) = true →
    (forIn names cs (fun (x : Str × NameKind) (r : List (Str × Addr)) => (match x with | (name, kind) => if (kind == NameKind.free) = true then (do let a ← cellOf env name; pure (ForInStep.yield ((name, a) :: r))) else pure (ForInStep.yield r) : Sem _))) = pure (gath env names cs)
  | [], cs, _ => by rw [List.forIn_nil]; rfl
  | (x, k) :: r, cs, h => by
    rw [List.all_cons, Bool.and_eq_true] at h
    rw [List.forIn_cons]
    dsimp only
    by_cases hk : (k == NameKind.free) = true
    · rw [if_pos hk]
      have h1 := h.1
      simp only [hk, Bool.not_true, Bool.false_or] at h1
      obtain ⟨a, ha⟩ := Option.isSome_iff_exists.mp h1
      unfold gath
      simp only [cellOf, ha, hk, if_true]
      exact gath_run r _ h.2
    · rw [if_neg hk]
      unfold gath
      rw [if_neg hk]
      exact gath_run r _ h.2
theorem closure_is {env : Env} {scope : Scope} (h : closes env scope = true) : closureFor scope env = pure (gath env scope.names []) := by
  have := gath_run scope.names [] h
  unfold closureFor
  rw [← pure_bind (gath env scope.names []) pure, ← this]
theorem gath_sound {env : Env} : ∀ (names : List (Str × NameKind)) (cs : List (Str × Addr)), (∀ p ∈ cs, env.cells.lookup p.1 = some p.2) → ∀ p ∈ gath env names cs, env.cells.lookup p.1 = some p.2
  | [], cs, h => h
  | (x, k) :: r, cs, h => by
    unfold gath
    refine gath_sound r _ ?_
    split
    · split
      · rename_i a ha
        intro p hp
        rcases List.mem_cons.mp hp with rfl | hp
        · exact ha
        · exact h p hp
      · exact h
    · exact h
theorem gath_mono {env : Env} : ∀ (names : List (Str × NameKind)) (cs : List (Str × Addr)), ∀ p ∈ cs, p ∈ gath env names cs
  | [], cs, p, h => h
  | (x, k) :: r, cs, p, h => by
    unfold gath
    refine gath_mono r _ p ?_
    split
    · split
      · exact List.mem_cons_of_mem _ h
      · exact h
    · exact h
theorem gath_has {env : Env} : ∀ (names : List (Str × NameKind)) (cs : List (Str × Addr)) (x : Str) (a : Addr), (x, NameKind.free) ∈ names → env.cells.lookup x = some a → (x, a) ∈ gath env names cs
  | (y, k) :: r, cs, x, a, hm, ha => by
    unfold gath
    rcases List.mem_cons.mp hm with e | hm
    · cases e
      rw [if_pos (by rfl), ha]
      exact gath_mono r _ _ (List.mem_cons_self ..)
    · exact gath_has r _ x a hm ha
theorem lookup_of_all {cs : List (Str × Addr)} {f : Str → Option Addr} {x : Str} {a : Addr} (hall : ∀ p ∈ cs, f p.1 = some p.2) (hm : (x, a) ∈ cs) : cs.lookup x = some a := by
  induction cs with
  | nil => cases hm
  | cons p r ih =>
    obtain ⟨y, b⟩ := p
    rw [List.lookup_cons]
    by_cases hy : x = y
    · subst hy
      have h1 := hall (x, b) (List.mem_cons_self ..)
      have h2 := hall (x, a) hm
      simp only at h1 h2
      rw [h1] at h2; cases h2
      simp
    · have hb : (x == y) = false := by simpa using hy
      rw [hb]
      rcases List.mem_cons.mp hm with e | hm
      · cases e; exact absurd rfl hy
      · exact ih (fun p hp => hall p (List.mem_cons_of_mem _ hp)) hm

/-- may a name of the frame be seen as it is in the comprehension? -/
def passes (env : Env) (scope : Scope) (x : Str) : Bool :=
  match env.kindOf x, (relabel scope env).names.lookup x, scope.names.contains (x, NameKind.free) with
  | some .cell, some .cell, true => true
  | some .free, some .free, true => !(x == ("__classdict__" : Str))
  | some .globalImplicit, some .globalImplicit, _ => true
  | _, _, _ => false
inductive Passes (env : Env) (scope : Scope) (ρ : List (Str × D)) : List (Str × D) → Prop
  | nil : Passes env scope ρ []
  | cons {x : Str} {d : D} {r : List (Str × D)} : ρ.lookup x = some d → passes env scope x = true → Passes env scope ρ r → Passes env scope ρ ((x, d) :: r)
theorem Passes.get {env : Env} {scope : Scope} {ρ : List (Str × D)} : ∀ {r : List (Str × D)}, Passes env scope ρ r → ∀ {x : Str} {d : D}, r.lookup x = some d → ρ.lookup x = some d ∧ passes env scope x = true
  | _, .nil, x, d, h => by cases h
  | _, .cons (x := y) h1 h2 r, x, d, h => by
    rw [lookup_one] at h
    by_cases hy : x = y
    · subst hy; rw [if_pos rfl] at h; cases h; exact ⟨h1, h2⟩
    · rw [if_neg hy] at h; exact r.get h

section
variable {prog : Program} {w : World} {c : Cx}
/-- the context in a comprehension -/
abbrev Cx.inn (c : Cx) (scope : Scope) (C : Addr) (ρ : List (Str × D)) : Cx := { c with env := compEnvC scope (gath c.env scope.names []) C c.env, ρ := ρ, O := [] }
theorem varAt_comp {scope : Scope} {C : Addr} {s : Shared} {x : Str} {v : Value} (hc : closes c.env scope = true) (h : VarAt c.env s.heap x v) (hp : passes c.env scope x = true) : VarAt (compEnvC scope (gath c.env scope.names []) C c.env) s.heap x v := by
  unfold passes at hp
  have hcell : ∀ a, c.env.cells.lookup x = some a → scope.names.contains (x, NameKind.free) = true → (gath c.env scope.names []).lookup x = some a := fun a ha hm =>
    lookup_of_all (f := fun y => c.env.cells.lookup y) (gath_sound scope.names [] (fun _ h => by cases h)) (gath_has scope.names [] x a (by simpa using hm) ha)
  cases h with
  | loc m h1 h2 h3 => rw [h1] at hp; simp at hp
  | cell a h1 h2 h3 =>
    rw [h1] at hp
    split at hp
    · rename_i e1 e2 e3; exact .cell a e2 (hcell a h2 e3) h3
    · rename_i e1 e2 e3; cases e1
    · rename_i e1 e2; cases e1
    · cases hp
  | free a h1 h2 h3 h4 =>
    rw [h1] at hp
    split at hp
    · rename_i e1 e2 e3; cases e1
    · rename_i e1 e2 e3; exact .free a e2 (hcell a h2 e3) h3 h4
    · rename_i e1 e2; cases e1
    · cases hp
  | glob m h1 h2 h3 =>
    rw [h1] at hp
    split at hp
    · rename_i e1 e2 e3; cases e1
    · rename_i e1 e2 e3; cases e1
    · rename_i e1 e2; exact .glob m e2 h2 h3
    · cases hp
def locals? (scope : Scope) (β : List (Str × D)) : Bool := β.all fun p => scope.names.lookup p.1 == some .local
theorem ok_comp {scope : Scope} {C : Addr} {K : KM} {s : Shared} {β ρ' : List (Str × D)} {m : Str → Option Value} (ok : Ok prog w c K s) (hkind : scope.kind = .function) (hc : closes c.env scope = true) (hρ : Passes c.env scope c.ρ ρ')
    (hβ : locals? scope β = true) (hn : s.heap.Ns C m) (hm : ∀ x d, β.lookup x = some d → ∃ v, m x = some v ∧ Rep prog w K v d) : Ok prog w (c.inn scope C (β ++ ρ')) K s where
  env := ⟨hkind, ok.env.glob, ok.env.built⟩
  mod := ok.mod
  hand := ok.hand
  kb := ok.kb
  base := ok.base
  inH := ok.inH
  vars := fun x d h => by
    rw [List.lookup_append] at h
    cases hb : β.lookup x with
    | some d' =>
      rw [hb] at h
      cases h
      obtain ⟨v, h1, h2⟩ := hm x d hb
      have hl : scope.names.lookup x = some .local := by
        have : ∀ p ∈ β, scope.names.lookup p.1 = some .local := by simpa [locals?] using hβ
        exact this (x, d) (mem_of_lookup hb)
      exact ⟨v, .loc m (lookup_relabel_local hl) hn h1, h2⟩
    | none =>
      rw [hb] at h
      obtain ⟨h1, h2⟩ := hρ.get (show ρ'.lookup x = some d from h)
      obtain ⟨v, h3, h4⟩ := ok.vars x d h1
      exact ⟨v, varAt_comp hc h3 h2, h4⟩
  own := fun x a d h => by cases h

def EvF (prog : Program) (w : World) (c : Cx) (ifs : List Expr) (b : Bool) : Prop :=
  ∀ (K : KM) (s : Shared) (Q : Bool → Shared → Prop) (E : Value → Shared → Prop), Ok prog w c K s → (∀ K' s', Next K s K' s' → Q b s') →
    wpAny (model prog w) c.A (forIn ifs true fun e r => if r = true then do let ok ← PySem.isTrue e c.env (eval e c.env); pure (ForInStep.yield ok) else pure (ForInStep.yield r)) Q E s
theorem evF_nil : EvF prog w c [] true := fun K s Q E ok q => wpAny_tests_nil (q K s (.refl ok.inH))
theorem evF_one {e : Expr} {b : Bool} (h : EvT prog w c e b) : EvF prog w c [e] b := fun K s Q E ok q => wpAny_tests_one (h K s Q E ok q)

theorem TopAt.at_ {K : KM} {h h' : Heap} {a : Addr} {d : D} (t : TopAt prog w K h a d) (hk : ∀ o, h.get? a = some o → h'.get? a = some o) : TopAt prog w K h' a d := by
  cases t with
  | tuple h1 h2 h3 h4 h5 => exact .tuple (hk _ h1) h2 h3 h4 h5
  | list h1 h2 h3 h4 h5 h6 => exact .list (hk _ h1) h2 h3 h4 h5 h6
  | dict h1 h2 h3 h4 h5 h6 h7 h8 => exact .dict (hk _ h1) h2 h3 h4 h5 h6 h7 h8
/-! ## dicts as lists of pairs -/
def put (l : List (Key × D)) (k : Key) (d : D) : List (Key × D) := if l.any fun p => decide (p.1 = k) then l.map fun p => if p.1 = k then (p.1, d) else p else l ++ [(k, d)]
def mkD (l : List (Key × D)) : D := .dict (l.map (·.1)) (l.map (·.2))
structure DAt (prog : Program) (w : World) (K : KM) (kvs : List (Key × Value)) (l : List (Key × D)) : Prop where
  keys : kvs.map (·.1) = l.map (·.1)
  vals : All prog w K (kvs.map (·.2)) (l.map (·.2))
theorem DAt.mono {K K' : KM} {kvs : List (Key × Value)} {l : List (Key × D)} (h : DAt prog w K kvs l) (hs : Sub K K') : DAt prog w K' kvs l := ⟨h.keys, h.vals.mono hs⟩
theorem DAt.nil {K : KM} : DAt prog w K [] [] := ⟨rfl, .nil⟩
theorem DAt.len {K : KM} {kvs : List (Key × Value)} {l : List (Key × D)} (h : DAt prog w K kvs l) : kvs.length = l.length := by simpa using congrArg List.length h.keys
theorem put_len (l : List (Key × D)) (k : Key) (d : D) : (put l k d).length ≤ l.length + 1 := by
  unfold put
  split
  · rw [List.length_map]; exact Nat.le_succ _
  · simp
theorem set_all {K : KM} {k : Key} {v : Value} {d : D} (r : Rep prog w K v d) : ∀ {kvs : List (Key × Value)} {l : List (Key × D)}, DAt prog w K kvs l →
    DAt prog w K (kvs.map fun p => if p.1 = k then (p.1, v) else p) (l.map fun p => if p.1 = k then (p.1, d) else p)
  | [], [], _ => .nil
  | [], _ :: _, h => by have := h.keys; cases this
  | _ :: _, [], h => by have := h.keys; cases this
  | (k1, v1) :: kvs, (k2, d2) :: l, h => by
    have hk := h.keys
    simp only [List.map_cons, List.cons.injEq] at hk
    obtain ⟨rfl, hk⟩ := hk
    have hv := h.vals
    simp only [List.map_cons] at hv
    cases hv with
    | cons r1 rs =>
      have ih := set_all r (k := k) (kvs := kvs) (l := l) ⟨hk, rs⟩
      simp only [List.map_cons]
      by_cases hkk : k1 = k
      · simp only [hkk, if_true]
        exact ⟨by simp only [List.map_cons]; rw [ih.keys], by simp only [List.map_cons]; exact .cons r ih.vals⟩
      · simp only [hkk, if_false]
        exact ⟨by simp only [List.map_cons]; rw [ih.keys], by simp only [List.map_cons]; exact .cons r1 ih.vals⟩
theorem DAt.put {K : KM} {kvs : List (Key × Value)} {l : List (Key × D)} {k : Key} {v : Value} {d : D} (h : DAt prog w K kvs l) (r : Rep prog w K v d) : DAt prog w K (stored kvs k v) (put l k d) := by
  have e : (kvs.any fun p => decide (p.1 = k)) = l.any fun p => decide (p.1 = k) := by
    have h1 : (kvs.any fun p => decide (p.1 = k)) = (kvs.map (·.1)).any fun x => decide (x = k) := by rw [List.any_map]; rfl
    have h2 : (l.any fun p => decide (p.1 = k)) = (l.map (·.1)).any fun x => decide (x = k) := by rw [List.any_map]; rfl
    rw [h1, h2, h.keys]
  unfold stored Mine.put
  rw [e]
  split
  · exact set_all r h
  · exact ⟨by rw [List.map_append, List.map_append, h.keys]; rfl, by rw [List.map_append, List.map_append]; exact h.vals.append (.cons r .nil)⟩

/-! ## comprehensions -/
structure CompOk (c : Cx) (scope : Scope) : Prop where
  kind : scope.kind = .function
  closes : closes c.env scope = true
  names : (scope.names.all fun x => !(x.2 == .local) || scope.names.lookup x.1 == some .local) = true
  cells : (scope.names.all fun x => !(x.2 == .cell)) = true
theorem CompOk.names' {scope : Scope} (h : CompOk c scope) : ∀ x ∈ scope.names, x.2 = .local → scope.names.lookup x.1 = some .local := fun x hx hl => by
  have := List.all_eq_true.mp h.names x hx
  rw [hl] at this
  simpa using this
theorem CompOk.cells' {scope : Scope} (h : CompOk c scope) : ∀ y ∈ scope.names, y.2 ≠ .cell := fun x hx hl => by
  have := List.all_eq_true.mp h.cells x hx
  rw [hl] at this
  cases this

theorem stp_start {W : List Addr} {K K' : KM} {s s' : Shared} (n : Next K s K' s') (h : ∀ b ∈ W, K' b = none) : Stp W K s K' s' :=
  ⟨let ⟨h, t, e, _⟩ := n.keeps; ⟨h, t, e⟩, fun b o _ e => n.keeps.get e, n.sub, n.inH, n.fresh, h⟩

theorem filt_succ {T : Type} {xs : List T} (p : T → Bool) {i : Nat} {d : T} (h : xs[i]? = some d) : (xs.take (i + 1)).filter p = (xs.take i).filter p ++ (if p d then [d] else []) := take_succ_filter p xs i d h

theorem It.next {β : Type} {A : Around} {tgt : Expr} {I : Addr} {W : List Addr} {xs : List D} {St : Nat → KM → Heap → Prop} (it : It prog w A tgt I W xs St) {i : Nat} {d : D} {K : KM} {s : Shared} {k : Option Value → Sem β} {k' : Value → Sem β} {Q : β → Shared → Prop} {E : Value → Shared → Prop}
    (hd : xs[i]? = some d) (st : St i K s.heap) (hK : InH K s.heap) (hW : ∀ b ∈ W, K b = none) (hk : ∀ v, k (some v) = (letOwnedTupleGo tgt (.ref I) v >>= fun _ => k' v))
    (h : ∀ K' v s', Stp W K s K' s' → St (i + 1) K' s'.heap → Rep prog w K' v d → wpAny (model prog w) A (k' v) Q E s') : wpAny (model prog w) A (pyNext (.ref I) >>= k) Q E s :=
  wpAny_bind (wpAny_mono (it.item i d K s (fun v s2 => wpAny (model prog w) A (k' v) Q E s2) E hd st hK hW h) (fun r s1 h1 => by
    obtain ⟨v, rfl, h1⟩ := h1
    rw [hk v]
    exact wpAny_bind h1) fun _ _ x => x)
theorem comp_list {elt tgt iter : Expr} {ifs : List Expr} {scope : Scope} {pos pos' : Pos} {use : Option (Value → Sem Unit)} {T : Type} {xs : List T} {φ : T → D} {p : T → Bool} {g : T → D} {β : T → List (Str × D)} {ρ' : List (Str × D)} {Q : Value → Shared → Prop} {E : Value → Shared → Prop} {K : KM} {s : Shared}
    (ok : Ok prog w c K s) (hit : EvIt prog w c tgt iter (xs.map φ)) (hc : CompOk c scope) (hρ : Passes c.env scope c.ρ ρ')
    (hput : ∀ d ∈ xs, ∀ C, Puts prog w c.A (compEnvC scope (gath c.env scope.names []) C c.env) tgt (φ d) (β d)) (hβ : ∀ d ∈ xs, locals? scope (β d) = true)
    (htest : ∀ d ∈ xs, ∀ C, EvF prog w (c.inn scope C (β d ++ ρ')) ifs (p d)) (helt : ∀ d ∈ xs, p d = true → ∀ C, Ev prog w (c.inn scope C (β d ++ ρ')) elt (g d))
    (hs : ∀ x, foldedSetIterable iter c.env x = pure x)
    (hQ : ∀ K' D C s' m, Next K s K' s' → s.heap.get? D = none → K' D = none → TopAt prog w K' s'.heap D (.list ((xs.filter p).map g)) → s.heap.get? C = none → K' C = none → C ≠ D → s'.heap.Ns C m →
      compPost (model prog w) c.A E use Q (.ref D) C (.ok .next) s') :
    wpAny (model prog w) c.A (comprehension (.ListComp elt [⟨tgt, iter, ifs, 0⟩] scope pos) scope c.env pos' (newList []) false (eval iter c.env) use) Q E s := by
  refine wpAny_comprehension_free rfl hs (closure_is hc.closes) hc.kind hc.names' (hit K s _ E ok fun K0 s0 I W St n0 it st0 hW hlim => ?_)
  have hWf : ∀ b ∈ W, s.heap.get? b = none := fun b hb => (hW b hb).2
  refine wpAny_newObj_type (wpAny_newFunctionEnv hc.cells' (by intro y hy; simp at hy) (fun h₁ hns₁ hsb₁ => ?_) hc.kind)
  dsimp only at hns₁ hsb₁ ⊢
  generalize hD : s0.heap.objs.size = D at hns₁ hsb₁ ⊢
  generalize hH2 : s0.heap.push { cls := .type "list", dict := none, data := .seq ([] : List Value).toArray } = H2 at hns₁ hsb₁ ⊢
  have hC : H2.objs.size = D + 1 := by rw [← hH2, Heap.size_push, hD]
  generalize hCe : H2.objs.size = C at hns₁ hsb₁ hC ⊢
  have hDC : D ≠ C := by rw [hC]; exact Nat.ne_of_lt (Nat.lt_succ_self _)
  have below : ∀ b o, s0.heap.get? b = some o → b ≠ C ∧ b ≠ D := fun b o e => by
    have hb := Heap.lt_size e
    rw [hD] at hb
    exact ⟨by rw [hC]; exact Nat.ne_of_lt (Nat.lt_succ_of_lt hb), Nat.ne_of_lt hb⟩
  have freshD : s0.heap.get? D = none := none_ge (by rw [hD]; exact Nat.le_refl _)
  have freshC : s0.heap.get? C = none := none_ge (by rw [hD, hC]; exact Nat.le_succ _)
  have old : ∀ b o, s0.heap.get? b = some o → h₁.get? b = some o := fun b o e => hsb₁.extBut b o (below b o e).1 (Heap.get?_push_of_some _ (hH2 ▸ Heap.get?_push_of_some _ e))
  have hacc : h₁.PlainList D [].toArray := ⟨_, hsb₁.extBut _ _ hDC (Heap.get?_push_of_some _ (hH2 ▸ hD ▸ Heap.get?_push_size _ rfl))⟩
  have n1 : Next K0 s0 K0 { s0 with heap := h₁, toks := s0.toks + ([] : List (Str × Value)).length } := .keep n0.inH (.of _ old)
  have hK0D := none_of_fresh n0.inH freshD
  have hK0C := none_of_fresh n0.inH freshC
  have hDW : D ∉ W := fun h => by
    obtain ⟨o, e⟩ := it.live 0 K0 _ st0 D h
    rw [freshD] at e; cases e
  have hCW : C ∉ W := fun h => by
    obtain ⟨o, e⟩ := it.live 0 K0 _ st0 C h
    rw [freshC] at e; cases e
  have inW : ∀ b, b ∈ D :: C :: W → b = D ∨ b = C ∨ b ∈ W := fun b hb => by simpa using hb
  have hfreshW : ∀ b ∈ D :: C :: W, s.heap.get? b = none := fun b hb => by
    rcases inW b hb with rfl | rfl | hb
    · exact n0.keeps.none freshD
    · exact n0.keeps.none freshC
    · exact hWf b hb
  have loop : ∀ s1 : Shared, s1 = { s0 with heap := h₁, toks := s0.toks + ([] : List (Str × Value)).length } →
      codeAny (model prog w) c.A (.compLoop (.ListComp elt [⟨tgt, iter, ifs, 0⟩] scope pos) 0 (.ref I) (.ref D) (compEnvC scope (gath c.env scope.names []) C c.env)) (compPost (model prog w) c.A E use Q (.ref D) C) s1 := by
    rintro s1 rfl
    refine codeAny_loop rfl (fun n s' => ∃ i K' ys m, Stp (D :: C :: W) K s K' s' ∧ St i K' s'.heap ∧ n = xs.length + 1 - i ∧ i ≤ xs.length ∧ s'.heap.PlainList D ys.toArray ∧ All prog w K' ys (((xs.take i).filter p).map g) ∧ s'.heap.Ns C m) ?_ (xs.length + 1)
      ⟨0, K0, [], _, stp_start (n0.trans n1) (fun b hb => (by
        rcases inW b hb with rfl | rfl | hb
        · exact hK0D
        · exact hK0C
        · exact (hW b hb).1)), it.frame 0 K0 K0 _ _ st0 (.refl _) n1.inH (fun b _ o e => old b o e), rfl, Nat.zero_le _, hacc, by simpa using All.nil, hns₁⟩
    rintro n s' ⟨i, K', ys, m, stp, st, rfl, hi, hD', hys, hns⟩
    show wpAny _ c.A ((compTurn (.ListComp elt [⟨tgt, iter, ifs, 0⟩] scope pos) 0 (.ref I) (.ref D) (compEnvC scope (gath c.env scope.names []) C c.env)).onRaise (fun x => do noteFrame x _; theTreesLotGoes x)) _ _ s'
    refine wpAny_noted ?_
    rw [compTurn_list]
    refine wpAny_bind (wpAny_standAt ?_)
    have hKW : ∀ b ∈ W, K' b = none := fun b hb => stp.out b (by simp [hb])
    have hKD : K' D = none := stp.out D (by simp)
    have hKC : K' C = none := stp.out C (by simp)
    have aD : ∃ o, s'.heap.get? D = some o := let ⟨_, e⟩ := hD'; ⟨_, e⟩
    have aC : ∃ o, s'.heap.get? C = some o := let ⟨o, _, _, e, _⟩ := hns; ⟨o, e⟩
    have live' : ∀ b ∈ D :: C :: W, K' b = none ∧ ∃ o, s'.heap.get? b = some o := fun b hb => by
      rcases inW b hb with rfl | rfl | hb
      · exact ⟨hKD, aD⟩
      · exact ⟨hKC, aC⟩
      · exact ⟨hKW b hb, it.live i K' _ st b hb⟩
    rcases Nat.lt_or_ge i xs.length with hlt | hge
    · obtain ⟨d, hd⟩ : ∃ d, xs[i]? = some d := ⟨_, List.getElem?_eq_getElem hlt⟩
      have hmem : d ∈ xs := List.mem_of_getElem? hd
      have hd' : (xs.map φ)[i]? = some (φ d) := by rw [List.getElem?_map, hd]; rfl
      refine it.next hd' st stp.inH hKW (fun _ => rfl) fun K1 v s1 stp1 st1 r1 => ?_
      have e1 : Stp (D :: C :: W) K' s' K1 s1 := stp1.weaken (fun b hb => by simp [hb]) live'
      have hD1 : s1.heap.PlainList D ys.toArray := hD'.at fun o e => stp1.kept D o hDW e
      have hC1 : s1.heap.Ns C m := hns.at' fun o e => stp1.kept C o hCW e
      have hK1C : K1 C = none := e1.out C (by simp)
      refine wpAny_bind (hput d hmem C K1 s1 v m _ _ hC1 hK1C stp1.inH r1 fun s2 m2 stp2 hns2 hv2 ho2 => ?_)
      have live1 : ∀ b ∈ D :: C :: W, K1 b = none ∧ ∃ o, s1.heap.get? b = some o := fun b hb => ⟨e1.out b hb, by
        rcases inW b hb with rfl | rfl | hb
        · exact let ⟨_, e⟩ := hD1; ⟨_, e⟩
        · exact let ⟨o, _, _, e, _⟩ := hC1; ⟨o, e⟩
        · exact it.live _ K1 _ st1 b hb⟩
      have e2 : Stp (D :: C :: W) K s K1 s2 := (stp.trans e1).trans (stp2.weaken (fun b hb => by
        rcases List.mem_cons.mp hb with rfl | hb
        · simp [compEnvC]
        · cases hb) live1)
      have notC : ∀ b, b ≠ C → b ∉ [(compEnvC scope (gath c.env scope.names []) C c.env).locals] := fun b hb hm => by
        rcases List.mem_cons.mp hm with rfl | hm
        · exact hb rfl
        · cases hm
      have hD2 : s2.heap.PlainList D ys.toArray := hD1.at fun o e => stp2.kept D o (notC D hDC) e
      have st2 : St (i + 1) K1 s2.heap := it.frame _ _ _ _ _ st1 (.refl _) stp2.inH fun b hb o e => stp2.kept b o (notC b (fun h => hCW (h ▸ hb))) e
      have okI : Ok prog w (c.inn scope C (β d ++ ρ')) K1 s2 := ok_comp (ok.next (e2.toNext hfreshW)) hc.kind hc.closes hρ (hβ d hmem) hns2 hv2
      have live2 : ∀ b ∈ D :: C :: W, K1 b = none ∧ ∃ o, s2.heap.get? b = some o := fun b hb => ⟨e2.out b hb, by
        rcases inW b hb with rfl | rfl | hb
        · exact let ⟨_, e⟩ := hD2; ⟨_, e⟩
        · exact let ⟨o, _, _, e, _⟩ := hns2; ⟨o, e⟩
        · exact it.live _ K1 _ st2 b hb⟩
      refine wpAny_bind (htest d hmem C K1 s2 _ _ okI fun K3 s3 n3 => ?_)
      have e3 : Stp (D :: C :: W) K s K3 s3 := e2.trans (.ofNext n3 live2)
      have st3 : St (i + 1) K3 s3.heap := it.frame _ _ _ _ _ st2 n3.sub n3.inH fun b _ o e => n3.keeps.get e
      have hD3 : s3.heap.PlainList D ys.toArray := hD2.at fun o e => n3.keeps.get e
      have hC3 := hns2.at' (h' := s3.heap) fun o e => n3.keeps.get e
      have hys3 : All prog w K3 ys (((xs.take i).filter p).map g) := hys.mono ((stp1.sub.trans stp2.sub).trans n3.sub)
      cases hp : p d with
      | false =>
        refine wpAny_pure ⟨rfl, xs.length + 1 - (i + 1), by omega, i + 1, K3, ys, m2, e3, st3, rfl, hlt, hD3, ?_, hC3⟩
        rw [filt_succ p hd, hp]; simpa using hys3
      | true =>
        refine wpAny_bind (wpAny_bind (helt d hmem hp C K3 s3 _ _ (okI.next n3) fun K4 y s4 n4 r4 => wpAny_bind ?_))
        have live3 : ∀ b ∈ D :: C :: W, K3 b = none ∧ ∃ o, s3.heap.get? b = some o := fun b hb => ⟨e3.out b hb, let ⟨o, e⟩ := (live2 b hb).2; ⟨o, n3.keeps.get e⟩⟩
        have e4 : Stp (D :: C :: W) K s K4 s4 := e3.trans (.ofNext n4 live3)
        have hD4 : s4.heap.PlainList D ys.toArray := hD3.at fun o e => n4.keeps.get e
        have hlen : ys.toArray.size ≤ sizeLine := by
          rw [List.size_toArray, hys.length, List.length_map]
          have a1 := List.length_filter_le p (xs.take i)
          have a2 : (xs.take i).length ≤ xs.length := by rw [List.length_take]; exact Nat.min_le_right _ _
          rw [List.length_map] at hlim; exact lim_size (by omega)
        refine wpAny_list_append_plain (hsz := hlen) hD4 fun h5 hl5 hs5 => wpAny_pure (wpAny_pure ⟨rfl, xs.length + 1 - (i + 1), by omega, i + 1, K4, ys ++ [y], m2, ?_, ?_, rfl, hlt, ?_, ?_, ?_⟩)
        · exact e4.trans (.mk' (tk := s4.toks) e4.inH e4.out fun b o hb e => hs5.extBut b o (fun h => hb (by simp [h])) e)
        · exact it.frame _ _ _ _ _ st3 n4.sub (fun b o e => (hs5.2 b (fun h => by have := e4.out b (by simp [h]); rw [this] at e; cases e)).trans (e4.inH b o e)) fun b hb o e => (hs5.2 b (fun h => hDW (h ▸ hb))).trans (n4.keeps.get e)
        · simpa using hl5
        · rw [filt_succ p hd, hp, List.map_append]
          exact (hys3.mono n4.sub).append (.cons r4 .nil)
        · exact (hC3.at' (h' := s4.heap) fun o e => n4.keeps.get e).at' fun o e => (hs5.2 C hDC.symm).trans e
    · have hin : i = xs.length := Nat.le_antisymm hi hge
      subst hin
      refine wpAny_bind (it.done K' s' _ _ (by rw [List.length_map]; exact st) stp.inH hKW fun s1 stp1 => wpAny_pure ?_)
      have e1 : Stp (D :: C :: W) K s K' s1 := stp.trans (stp1.weaken (fun b hb => by simp [hb]) live')
      have n2 := e1.toNext hfreshW
      obtain ⟨nn, hD1⟩ : s1.heap.PlainList D ys.toArray := hD'.at fun o e => stp1.kept D o hDW e
      have hC1 : s1.heap.Ns C m := hns.at' fun o e => stp1.kept C o hCW e
      rw [List.take_length] at hys
      refine hQ K' D C s1 m n2 (n0.keeps.none freshD) hKD (.list hD1 rfl rfl hys ?_) (n0.keeps.none freshC) hKC hDC.symm hC1
      rw [List.length_map]
      rw [List.length_map] at hlim
      exact Nat.le_trans (List.length_filter_le _ _) hlim
  exact codeAny_compStart_list (loop _ rfl) (it.self 0 K0 _ _ _ (it.frame 0 K0 K0 _ _ st0 (.refl _) n1.inH (fun b _ o e => old b o e)) (loop _ rfl))
theorem evn_comp {elt tgt iter : Expr} {ifs : List Expr} {scope : Scope} {pos : Pos} {T : Type} {xs : List T} {φ : T → D} {p : T → Bool} {g : T → D} {β : T → List (Str × D)} {ρ' : List (Str × D)}
    (hit : EvIt prog w c tgt iter (xs.map φ)) (hc : CompOk c scope) (hρ : Passes c.env scope c.ρ ρ')
    (hput : ∀ d ∈ xs, ∀ C, Puts prog w c.A (compEnvC scope (gath c.env scope.names []) C c.env) tgt (φ d) (β d)) (hβ : ∀ d ∈ xs, locals? scope (β d) = true)
    (htest : ∀ d ∈ xs, ∀ C, EvF prog w (c.inn scope C (β d ++ ρ')) ifs (p d)) (helt : ∀ d ∈ xs, p d = true → ∀ C, Ev prog w (c.inn scope C (β d ++ ρ')) elt (g d))
    (hs : ∀ x, foldedSetIterable iter c.env x = pure x := by intro _; rfl) : EvN prog w c (.ListComp elt [⟨tgt, iter, ifs, 0⟩] scope pos) (.list ((xs.filter p).map g)) := fun K s Q E ok q => by
  rw [eval_ListComp]
  refine comp_list (use := none) ok hit hc hρ hput hβ htest helt hs fun K' D C s' m n hD hKD t hC hKC hCD hns => ?_
  refine ⟨m, hns, fun h' hs' => ?_⟩
  have n' : Next K s K' { s' with heap := h' } := n.touched hC hKC hs' s'.toks
  exact q K' D _ n' hD hKD (t.at_ (h' := h') (fun o e => (hs'.2 D hCD.symm).trans e))
end
end Mine
namespace Mine
section
variable {prog : Program} {w : World} {c : Cx}
theorem key_is {K : KM} {k : Key} {v : Value} (r : Rep prog w K v (keyD k)) : (keyKind prog w).is k v = true := by
  cases k with
  | s x => cases r with | str _ t => exact strKind_is prog w x t
  | b x => cases r with | bytes _ t => show (bytesKind prog w).is x (.bytes x.toArray t) = true; simp [bytesKind, isBytes]
def dfold {T : Type} (kf : T → Key) (vf : T → D) (xs : List T) : List (Key × D) := xs.foldl (fun acc x => put acc (kf x) (vf x)) []
theorem dfold_snoc {T : Type} {kf : T → Key} {vf : T → D} (xs : List T) (x : T) : dfold kf vf (xs ++ [x]) = put (dfold kf vf xs) (kf x) (vf x) := by simp [dfold, List.foldl_append]
theorem foldput_len {T : Type} {kf : T → Key} {vf : T → D} : ∀ (xs : List T) (acc : List (Key × D)), (xs.foldl (fun acc x => put acc (kf x) (vf x)) acc).length ≤ acc.length + xs.length
  | [], acc => by simp
  | x :: xs, acc => by
    rw [List.foldl_cons]
    have h1 := foldput_len (kf := kf) (vf := vf) xs (put acc (kf x) (vf x))
    have h2 := put_len acc (kf x) (vf x)
    rw [List.length_cons]; omega
theorem dfold_len {T : Type} {kf : T → Key} {vf : T → D} (xs : List T) : (dfold kf vf xs).length ≤ xs.length := by simpa [dfold] using foldput_len xs []
theorem top_dict {K : KM} {h : Heap} {a : Addr} {kvs : List (Key × Value)} {l : List (Key × D)} (hd : h.DictOf (keyKind prog w) a kvs) (hl : DAt prog w K kvs l) (hm : (a == sysModules) = false) (hz : l.length ≤ lim) : TopAt prog w K h a (mkD l) := by
  obtain ⟨o, ho, hi⟩ := Heap.dictOf_iff.mp hd
  have hp : o.dict = none := let ⟨_, _, ⟨_, h, _⟩, _⟩ := hi; h
  exact .dict ho hi hm hl.keys rfl hl.vals (by simpa using hz) hp
theorem comp_dict {kx vx tgt iter : Expr} {ifs : List Expr} {scope : Scope} {pos pos' : Pos} {use : Option (Value → Sem Unit)} {T : Type} {xs : List T} {φ : T → D} {p : T → Bool} {kf : T → Key} {vf : T → D} {β : T → List (Str × D)} {ρ' : List (Str × D)} {Q : Value → Shared → Prop} {E : Value → Shared → Prop} {K : KM} {s : Shared}
    (ok : Ok prog w c K s) (hit : EvIt prog w c tgt iter (xs.map φ)) (hc : CompOk c scope) (hρ : Passes c.env scope c.ρ ρ')
    (hput : ∀ d ∈ xs, ∀ C, Puts prog w c.A (compEnvC scope (gath c.env scope.names []) C c.env) tgt (φ d) (β d)) (hβ : ∀ d ∈ xs, locals? scope (β d) = true)
    (htest : ∀ d ∈ xs, ∀ C, EvF prog w (c.inn scope C (β d ++ ρ')) ifs (p d)) (helt : ∀ d ∈ xs, p d = true → ∀ C, Ev prog w (c.inn scope C (β d ++ ρ')) kx (keyD (kf d)) ∧ Ev prog w (c.inn scope C (β d ++ ρ')) vx (vf d))
    (hs : ∀ x, foldedSetIterable iter c.env x = pure x)
    (hQ : ∀ K' D C s' m, Next K s K' s' → s.heap.get? D = none → K' D = none → TopAt prog w K' s'.heap D (mkD (dfold kf vf (xs.filter p))) → s.heap.get? C = none → K' C = none → C ≠ D → s'.heap.Ns C m →
      compPost (model prog w) c.A E use Q (.ref D) C (.ok .next) s') :
    wpAny (model prog w) c.A (comprehension (.DictComp kx vx [⟨tgt, iter, ifs, 0⟩] scope pos) scope c.env pos' newDict false (eval iter c.env) use) Q E s := by
  refine wpAny_comprehension_free rfl hs (closure_is hc.closes) hc.kind hc.names' (hit K s _ E ok fun K0 s0 I W St n0 it st0 hW hlim => ?_)
  have hWf : ∀ b ∈ W, s.heap.get? b = none := fun b hb => (hW b hb).2
  refine wpAny_newObj_type (wpAny_newFunctionEnv hc.cells' (by intro y hy; simp at hy) (fun h₁ hns₁ hsb₁ => ?_) hc.kind)
  dsimp only at hns₁ hsb₁ ⊢
  have hnew : (s0.heap.push { cls := .type "dict", dict := none, data := .dict #[] }).DictOf (keyKind prog w) s0.heap.objs.size [] := Heap.DictOf.new s0.heap
  generalize hD : s0.heap.objs.size = D at hns₁ hsb₁ hnew ⊢
  generalize hH2 : s0.heap.push { cls := .type "dict", dict := none, data := .dict #[] } = H2 at hns₁ hsb₁ hnew ⊢
  have hC : H2.objs.size = D + 1 := by rw [← hH2, Heap.size_push, hD]
  generalize hCe : H2.objs.size = C at hns₁ hsb₁ hC ⊢
  have hDC : D ≠ C := by rw [hC]; exact Nat.ne_of_lt (Nat.lt_succ_self _)
  have below : ∀ b o, s0.heap.get? b = some o → b ≠ C ∧ b ≠ D := fun b o e => by
    have hb := Heap.lt_size e
    rw [hD] at hb
    exact ⟨by rw [hC]; exact Nat.ne_of_lt (Nat.lt_succ_of_lt hb), Nat.ne_of_lt hb⟩
  have freshD : s0.heap.get? D = none := none_ge (by rw [hD]; exact Nat.le_refl _)
  have freshC : s0.heap.get? C = none := none_ge (by rw [hD, hC]; exact Nat.le_succ _)
  have old : ∀ b o, s0.heap.get? b = some o → h₁.get? b = some o := fun b o e => hsb₁.extBut b o (below b o e).1 (Heap.get?_push_of_some _ (hH2 ▸ Heap.get?_push_of_some _ e))
  have hacc : h₁.DictOf (keyKind prog w) D [] := hnew.at fun o e => hsb₁.extBut _ _ hDC (Heap.get?_push_of_some _ e)
  have n1 : Next K0 s0 K0 { s0 with heap := h₁, toks := s0.toks + ([] : List (Str × Value)).length } := .keep n0.inH (.of _ old)
  have hK0D := none_of_fresh n0.inH freshD
  have hK0C := none_of_fresh n0.inH freshC
  have hDW : D ∉ W := fun h => by
    obtain ⟨o, e⟩ := it.live 0 K0 _ st0 D h
    rw [freshD] at e; cases e
  have hCW : C ∉ W := fun h => by
    obtain ⟨o, e⟩ := it.live 0 K0 _ st0 C h
    rw [freshC] at e; cases e
  have inW : ∀ b, b ∈ D :: C :: W → b = D ∨ b = C ∨ b ∈ W := fun b hb => by simpa using hb
  have hfreshW : ∀ b ∈ D :: C :: W, s.heap.get? b = none := fun b hb => by
    rcases inW b hb with rfl | rfl | hb
    · exact n0.keeps.none freshD
    · exact n0.keeps.none freshC
    · exact hWf b hb
  have loop : ∀ s1 : Shared, s1 = { s0 with heap := h₁, toks := s0.toks + ([] : List (Str × Value)).length } →
      codeAny (model prog w) c.A (.compLoop (.DictComp kx vx [⟨tgt, iter, ifs, 0⟩] scope pos) 0 (.ref I) (.ref D) (compEnvC scope (gath c.env scope.names []) C c.env)) (compPost (model prog w) c.A E use Q (.ref D) C) s1 := by
    rintro s1 rfl
    refine codeAny_loop rfl (fun n s' => ∃ i K' kvs m, Stp (D :: C :: W) K s K' s' ∧ St i K' s'.heap ∧ n = xs.length + 1 - i ∧ i ≤ xs.length ∧ s'.heap.DictOf (keyKind prog w) D kvs ∧ DAt prog w K' kvs (dfold kf vf ((xs.take i).filter p)) ∧ s'.heap.Ns C m) ?_ (xs.length + 1)
      ⟨0, K0, [], _, stp_start (n0.trans n1) (fun b hb => (by
        rcases inW b hb with rfl | rfl | hb
        · exact hK0D
        · exact hK0C
        · exact (hW b hb).1)), it.frame 0 K0 K0 _ _ st0 (.refl _) n1.inH (fun b _ o e => old b o e), rfl, Nat.zero_le _, hacc, by simpa [dfold] using DAt.nil, hns₁⟩
    rintro n s' ⟨i, K', kvs, m, stp, st, rfl, hi, hD', hys, hns⟩
    show wpAny _ c.A ((compTurn (.DictComp kx vx [⟨tgt, iter, ifs, 0⟩] scope pos) 0 (.ref I) (.ref D) (compEnvC scope (gath c.env scope.names []) C c.env)).onRaise (fun x => do noteFrame x _; theTreesLotGoes x)) _ _ s'
    refine wpAny_noted ?_
    rw [compTurn_dict]
    refine wpAny_bind (wpAny_standAt ?_)
    have hKW : ∀ b ∈ W, K' b = none := fun b hb => stp.out b (by simp [hb])
    have hKD : K' D = none := stp.out D (by simp)
    have hKC : K' C = none := stp.out C (by simp)
    have aD : ∃ o, s'.heap.get? D = some o := let ⟨o, _, _, e, _⟩ := hD'; ⟨o, e⟩
    have aC : ∃ o, s'.heap.get? C = some o := let ⟨o, _, _, e, _⟩ := hns; ⟨o, e⟩
    have live' : ∀ b ∈ D :: C :: W, K' b = none ∧ ∃ o, s'.heap.get? b = some o := fun b hb => by
      rcases inW b hb with rfl | rfl | hb
      · exact ⟨hKD, aD⟩
      · exact ⟨hKC, aC⟩
      · exact ⟨hKW b hb, it.live i K' _ st b hb⟩
    rcases Nat.lt_or_ge i xs.length with hlt | hge
    · obtain ⟨d, hd⟩ : ∃ d, xs[i]? = some d := ⟨_, List.getElem?_eq_getElem hlt⟩
      have hmem : d ∈ xs := List.mem_of_getElem? hd
      have hd' : (xs.map φ)[i]? = some (φ d) := by rw [List.getElem?_map, hd]; rfl
      refine it.next hd' st stp.inH hKW (fun _ => rfl) fun K1 v s1 stp1 st1 r1 => ?_
      have e1 : Stp (D :: C :: W) K' s' K1 s1 := stp1.weaken (fun b hb => by simp [hb]) live'
      have hD1 : s1.heap.DictOf (keyKind prog w) D kvs := hD'.at fun o e => stp1.kept D o hDW e
      have hC1 : s1.heap.Ns C m := hns.at' fun o e => stp1.kept C o hCW e
      have hK1C : K1 C = none := e1.out C (by simp)
      refine wpAny_bind (hput d hmem C K1 s1 v m _ _ hC1 hK1C stp1.inH r1 fun s2 m2 stp2 hns2 hv2 ho2 => ?_)
      have live1 : ∀ b ∈ D :: C :: W, K1 b = none ∧ ∃ o, s1.heap.get? b = some o := fun b hb => ⟨e1.out b hb, by
        rcases inW b hb with rfl | rfl | hb
        · exact let ⟨o, _, _, e, _⟩ := hD1; ⟨o, e⟩
        · exact let ⟨o, _, _, e, _⟩ := hC1; ⟨o, e⟩
        · exact it.live _ K1 _ st1 b hb⟩
      have e2 : Stp (D :: C :: W) K s K1 s2 := (stp.trans e1).trans (stp2.weaken (fun b hb => by
        rcases List.mem_cons.mp hb with rfl | hb
        · simp [compEnvC]
        · cases hb) live1)
      have notC : ∀ b, b ≠ C → b ∉ [(compEnvC scope (gath c.env scope.names []) C c.env).locals] := fun b hb hm => by
        rcases List.mem_cons.mp hm with rfl | hm
        · exact hb rfl
        · cases hm
      have hD2 : s2.heap.DictOf (keyKind prog w) D kvs := hD1.at fun o e => stp2.kept D o (notC D hDC) e
      have st2 : St (i + 1) K1 s2.heap := it.frame _ _ _ _ _ st1 (.refl _) stp2.inH fun b hb o e => stp2.kept b o (notC b (fun h => hCW (h ▸ hb))) e
      have okI : Ok prog w (c.inn scope C (β d ++ ρ')) K1 s2 := ok_comp (ok.next (e2.toNext hfreshW)) hc.kind hc.closes hρ (hβ d hmem) hns2 hv2
      have live2 : ∀ b ∈ D :: C :: W, K1 b = none ∧ ∃ o, s2.heap.get? b = some o := fun b hb => ⟨e2.out b hb, by
        rcases inW b hb with rfl | rfl | hb
        · exact let ⟨o, _, _, e, _⟩ := hD2; ⟨o, e⟩
        · exact let ⟨o, _, _, e, _⟩ := hns2; ⟨o, e⟩
        · exact it.live _ K1 _ st2 b hb⟩
      refine wpAny_bind (htest d hmem C K1 s2 _ _ okI fun K3 s3 n3 => ?_)
      have e3 : Stp (D :: C :: W) K s K3 s3 := e2.trans (.ofNext n3 live2)
      have st3 : St (i + 1) K3 s3.heap := it.frame _ _ _ _ _ st2 n3.sub n3.inH fun b _ o e => n3.keeps.get e
      have hD3 : s3.heap.DictOf (keyKind prog w) D kvs := hD2.at fun o e => n3.keeps.get e
      have hC3 := hns2.at' (h' := s3.heap) fun o e => n3.keeps.get e
      have hys3 : DAt prog w K3 kvs (dfold kf vf ((xs.take i).filter p)) := hys.mono ((stp1.sub.trans stp2.sub).trans n3.sub)
      cases hp : p d with
      | false =>
        refine wpAny_pure ⟨rfl, xs.length + 1 - (i + 1), by omega, i + 1, K3, kvs, m2, e3, st3, rfl, hlt, hD3, ?_, hC3⟩
        rw [filt_succ p hd, hp]; simpa using hys3
      | true =>
        obtain ⟨hkx, hvx⟩ := helt d hmem hp C
        refine wpAny_bind (wpAny_bind (hkx K3 s3 _ _ (okI.next n3) fun K4 key s4 n4 r4 => wpAny_bind (wpAny_holding (hvx K4 s4 _ _ ((okI.next n3).next n4) fun K5 y s5 n5 r5 => wpAny_bind (wpAny_standAt (wpAny_holding ?_))))))
        have live3 : ∀ b ∈ D :: C :: W, K3 b = none ∧ ∃ o, s3.heap.get? b = some o := fun b hb => ⟨e3.out b hb, let ⟨o, e⟩ := (live2 b hb).2; ⟨o, n3.keeps.get e⟩⟩
        have n45 := n4.trans n5
        have e4 : Stp (D :: C :: W) K s K5 s5 := e3.trans (.ofNext n45 live3)
        have hD4 : s5.heap.DictOf (keyKind prog w) D kvs := hD3.at fun o e => n45.keeps.get e
        have hlen : kvs.length ≤ sizeLine := by
          have a0 := hys.len
          have a1 := dfold_len (kf := kf) (vf := vf) ((xs.take i).filter p)
          have a2 := List.length_filter_le p (xs.take i)
          have a3 : (xs.take i).length ≤ xs.length := by rw [List.length_take]; exact Nat.min_le_right _ _
          rw [List.length_map] at hlim; exact lim_size (by omega)
        refine wpAny_dictSet_pairs (hsz := hlen) (key_is r4) hD4 fun h6 hl6 hs6 => wpAny_pure ⟨rfl, xs.length + 1 - (i + 1), by omega, i + 1, K5, stored kvs (kf d) y, m2, ?_, ?_, rfl, hlt, ?_, ?_, ?_⟩
        · exact e4.trans (.mk' e4.inH e4.out fun b o hb e => hs6.extBut b o (fun h => hb (by simp [h])) e)
        · exact it.frame _ _ _ _ _ st3 n45.sub (fun b o e => (hs6.2 b (fun h => by have := e4.out b (by simp [h]); rw [this] at e; cases e)).trans (e4.inH b o e)) fun b hb o e => (hs6.2 b (fun h => hDW (h ▸ hb))).trans (n45.keeps.get e)
        · exact hl6
        · rw [filt_succ p hd, hp, if_pos rfl, dfold_snoc]
          exact (hys3.mono n45.sub).put r5
        · exact (hC3.at' (h' := s5.heap) fun o e => n45.keeps.get e).at' fun o e => (hs6.2 C hDC.symm).trans e
    · have hin : i = xs.length := Nat.le_antisymm hi hge
      subst hin
      refine wpAny_bind (it.done K' s' _ _ (by rw [List.length_map]; exact st) stp.inH hKW fun s1 stp1 => wpAny_pure ?_)
      have e1 : Stp (D :: C :: W) K s K' s1 := stp.trans (stp1.weaken (fun b hb => by simp [hb]) live')
      have n2 := e1.toNext hfreshW
      have hD1 : s1.heap.DictOf (keyKind prog w) D kvs := hD'.at fun o e => stp1.kept D o hDW e
      have hC1 : s1.heap.Ns C m := hns.at' fun o e => stp1.kept C o hCW e
      rw [List.take_length] at hys
      refine hQ K' D C s1 m n2 (n0.keeps.none freshD) hKD (top_dict hD1 hys ((ok.next n0).notMods (by rw [hD]; exact Nat.le_refl _)) ?_) (n0.keeps.none freshC) hKC hDC.symm hC1
      rw [List.length_map] at hlim
      exact Nat.le_trans (dfold_len _) (Nat.le_trans (List.length_filter_le _ _) hlim)
  exact codeAny_compStart_dict (loop _ rfl) (it.self 0 K0 _ _ _ (it.frame 0 K0 K0 _ _ st0 (.refl _) n1.inH (fun b _ o e => old b o e)) (loop _ rfl))
theorem evn_dcomp {kx vx tgt iter : Expr} {ifs : List Expr} {scope : Scope} {pos : Pos} {T : Type} {xs : List T} {φ : T → D} {p : T → Bool} {kf : T → Key} {vf : T → D} {β : T → List (Str × D)} {ρ' : List (Str × D)}
    (hit : EvIt prog w c tgt iter (xs.map φ)) (hc : CompOk c scope) (hρ : Passes c.env scope c.ρ ρ')
    (hput : ∀ d ∈ xs, ∀ C, Puts prog w c.A (compEnvC scope (gath c.env scope.names []) C c.env) tgt (φ d) (β d)) (hβ : ∀ d ∈ xs, locals? scope (β d) = true)
    (htest : ∀ d ∈ xs, ∀ C, EvF prog w (c.inn scope C (β d ++ ρ')) ifs (p d)) (helt : ∀ d ∈ xs, p d = true → ∀ C, Ev prog w (c.inn scope C (β d ++ ρ')) kx (keyD (kf d)) ∧ Ev prog w (c.inn scope C (β d ++ ρ')) vx (vf d))
    (hs : ∀ x, foldedSetIterable iter c.env x = pure x := by intro _; rfl) : EvN prog w c (.DictComp kx vx [⟨tgt, iter, ifs, 0⟩] scope pos) (mkD (dfold kf vf (xs.filter p))) := fun K s Q E ok q => by
  rw [arm_eval_DictComp]
  refine comp_dict (use := none) ok hit hc hρ hput hβ htest helt hs fun K' D C s' m n hD hKD t hC hKC hCD hns => ?_
  refine ⟨m, hns, fun h' hs' => ?_⟩
  have n' : Next K s K' { s' with heap := h' } := n.touched hC hKC hs' s'.toks
  exact q K' D _ n' hD hKD (t.at_ (h' := h') (fun o e => (hs'.2 D hCD.symm).trans e))
end
end Mine
namespace Mine

/-! ## a function's run: its state -/
structure Anc where
  W : List Addr
  K : KM
  s : Shared
def Anc.may (α : Anc) (b : Addr) : Prop := b ∈ α.W ∨ α.s.heap.get? b = none

structure Fr (prog : Program) (w : World) (c : Cx) (α : Anc) (K : KM) (s : Shared) : Prop where
  ok : Ok prog w c K s
  stp : Stp α.W α.K α.s K s
  alive : ∀ b ∈ α.W, ∃ o, s.heap.get? b = some o
  ns : ∃ m, s.heap.Ns c.env.locals m
  loc : K c.env.locals = none ∧ α.may c.env.locals
  cel : ∀ n a, c.env.cells.lookup n = some a → (∃ v, s.heap.IsCell a v) ∧ K a = none ∧ α.may a ∧ a ≠ c.env.locals
  inj : ∀ n n' a, c.env.cells.lookup n = some a → c.env.cells.lookup n' = some a → n = n'
  own : ∀ x p, c.O.lookup x = some p → α.may p.1 ∧ p.1 ≠ c.env.locals ∧ ∀ n b, c.env.cells.lookup n = some b → p.1 ≠ b
  apart : ∀ x y p q, c.O.lookup x = some p → c.O.lookup y = some q → x ≠ y → p.1 ≠ q.1
  base : ∀ b o, c.B.get? b = some o → b ≠ c.env.locals ∧ (∀ n a, c.env.cells.lookup n = some a → b ≠ a) ∧ ∀ x p, c.O.lookup x = some p → b ≠ p.1

theorem ns_same {h : Heap} {a : Addr} {m m' : Str → Option Value} (x : h.Ns a m) (y : h.Ns a m') : m = m' := by
  obtain ⟨o, es, ep, h1, h2, _, h3⟩ := x
  obtain ⟨o', es', ep', k1, k2, _, k3⟩ := y
  rw [h1] at k1; cases k1
  rw [h2] at k2; cases k2
  funext n; rw [← h3 n, ← k3 n]
theorem lookup_two {β : Type} {x : Str} {d : β} {l : List (Str × β)} {y : Str} : ((x, d) :: l).lookup y = if y = x then some d else l.lookup y := by
  rw [List.lookup_cons]
  by_cases h : y = x
  · subst h; simp
  · have : (y == x) = false := by simpa using h
    rw [this, if_neg h]
theorem Stp.write {W : List Addr} {K₀ K : KM} {s₀ s : Shared} (stp : Stp W K₀ s₀ K s) {a : Addr} {h' : Heap} (hm : a ∈ W ∨ s₀.heap.get? a = none) (hK : K a = none) (hs : Heap.SameBut a s.heap h') (tk : Nat) : Stp W K₀ s₀ K { s with heap := h', toks := tk } := by
  refine ⟨?_, fun b o hb e => ?_, stp.sub, fun b o e => ?_, stp.fresh, stp.out⟩
  · obtain ⟨h1, t1, rfl⟩ := stp.same
    exact ⟨h', tk, rfl⟩
  · have : b ≠ a := fun q => by
      subst q
      rcases hm with hm | hm
      · exact hb hm
      · rw [hm] at e; cases e
    exact (hs.2 b this).trans (stp.kept b o hb e)
  · have : b ≠ a := fun q => by subst q; rw [hK] at e; cases e
    exact (hs.2 b this).trans (stp.inH b o e)
theorem Stp.over {W W' : List Addr} {K₀ K K' : KM} {s₀ s s' : Shared} (a : Stp W K₀ s₀ K s) (b : Stp W' K s K' s') (hm : ∀ x ∈ W', x ∈ W ∨ s₀.heap.get? x = none) (hal : ∀ x ∈ W, ∃ o, s.heap.get? x = some o) : Stp W K₀ s₀ K' s' := by
  have out : ∀ x ∈ W, K' x = none := fun x hx => by
    cases q : K' x with
    | none => rfl
    | some o' =>
      obtain ⟨o, e⟩ := hal x hx
      have := b.fresh x o' q (a.out x hx)
      rw [e] at this; cases this
  refine ⟨?_, fun x o hx e => ?_, a.sub.trans b.sub, b.inH, fun x o h1 h2 => ?_, out⟩
  · obtain ⟨h1, t1, rfl⟩ := a.same
    obtain ⟨h2, t2, rfl⟩ := b.same
    exact ⟨h2, t2, rfl⟩
  · refine b.kept x o (fun hx' => ?_) (a.kept x o hx e)
    rcases hm x hx' with h | h
    · exact hx h
    · rw [h] at e; cases e
  · cases q : K x with
    | some o' => exact a.fresh x o' q h2
    | none =>
      have q' := b.fresh x o h1 q
      cases e : s₀.heap.get? x with
      | none => rfl
      | some o' =>
        by_cases hx : x ∈ W
        · rw [out x hx] at h1; cases h1
        · rw [a.kept x o' hx e] at q'; cases q'

section
variable {prog : Program} {w : World} {c : Cx} {α : Anc}
theorem Fr.next {K K' : KM} {s s' : Shared} (f : Fr prog w c α K s) (n : Next K s K' s') : Fr prog w c α K' s' := by
  have alive : ∀ b, (∃ o, s.heap.get? b = some o) → K b = none → K' b = none := fun b ⟨o, e⟩ h => n.notIn h e
  refine ⟨f.ok.next n, f.stp.trans (.ofNext n fun b hb => ⟨f.stp.out b hb, f.alive b hb⟩), fun b hb => let ⟨o, e⟩ := f.alive b hb; ⟨o, n.keeps.get e⟩, ?_, ?_, fun n' a h => ?_, f.inj, f.own, f.apart, f.base⟩
  · obtain ⟨m, h⟩ := f.ns
    exact ⟨m, h.keeps fun b o e => n.keeps.get e⟩
  · obtain ⟨m, o, _, _, h, _⟩ := f.ns
    exact ⟨n.notIn f.loc.1 h, f.loc.2⟩
  · obtain ⟨⟨v, h1⟩, h2, h3, h4⟩ := f.cel n' a h
    obtain ⟨o, ho, _⟩ := id h1
    exact ⟨⟨v, h1.keeps fun b o e => n.keeps.get e⟩, n.notIn h2 ho, h3, h4⟩
/-- less is known -/
theorem Fr.less {K : KM} {s : Shared} (f : Fr prog w c α K s) {ρ' : List (Str × D)} {O' : List (Str × Addr × D)} (hρ : ∀ x d, ρ'.lookup x = some d → c.ρ.lookup x = some d) (hO : ∀ x p, O'.lookup x = some p → c.O.lookup x = some p) : Fr prog w { c with ρ := ρ', O := O' } α K s where
  ok := ⟨f.ok.env, f.ok.mod, f.ok.hand, f.ok.kb, f.ok.base, f.ok.inH, fun x d h => f.ok.vars x d (hρ x d h), fun x a d h => f.ok.own x a d (hO x _ h)⟩
  stp := f.stp
  alive := f.alive
  ns := f.ns
  loc := f.loc
  cel := f.cel
  inj := f.inj
  own := fun x p h => f.own x p (hO x p h)
  apart := fun x y p q h h' hne => f.apart x y p q (hO x p h) (hO y q h') hne
  base := fun b o h => ⟨(f.base b o h).1, (f.base b o h).2.1, fun x p h' => (f.base b o h).2.2 x p (hO x p h')⟩

/-- writing at one of the function's own places -/
structure Moved (c : Cx) (K : KM) (s : Shared) (a : Addr) (s' : Shared) : Prop where
  out : K a = none
  same : ∃ h' tk, s' = { s with heap := h', toks := tk } ∧ Heap.SameBut a s.heap h'
  alive : ∃ o, s'.heap.get? a = some o
  base : ∀ o, c.B.get? a ≠ some o
theorem Moved.get {K : KM} {s s' : Shared} {a : Addr} (m : Moved c K s a s') {b : Addr} {o : Obj} (hb : b ≠ a) (e : s.heap.get? b = some o) : s'.heap.get? b = some o := by
  obtain ⟨h', tk, rfl, hs⟩ := m.same
  exact (hs.2 b hb).trans e
theorem Moved.live {K : KM} {s s' : Shared} {a : Addr} (m : Moved c K s a s') {b : Addr} (h : ∃ o, s.heap.get? b = some o) : ∃ o, s'.heap.get? b = some o := by
  by_cases hb : b = a
  · subst hb; exact m.alive
  · obtain ⟨o, e⟩ := h; exact ⟨o, m.get hb e⟩
/-- what holds after a write at a: the frame's shape, other objects -/
theorem Fr.moved {K : KM} {s s' : Shared} {a : Addr} (f : Fr prog w c α K s) (m : Moved c K s a s') (hm : α.may a) : Stp α.W α.K α.s K s' ∧ (∀ b ∈ α.W, ∃ o, s'.heap.get? b = some o) ∧ (∀ b o, c.B.get? b = some o → s'.heap.get? b = some o) ∧ InH K s'.heap := by
  have hb : ∀ b o, c.B.get? b = some o → s'.heap.get? b = some o := fun b o e => m.get (fun h => m.base o (h ▸ e)) (f.ok.base b o e)
  have ha : ∀ b ∈ α.W, ∃ o, s'.heap.get? b = some o := fun b h => m.live (f.alive b h)
  have hi : InH K s'.heap := fun b o e => m.get (fun h => by subst h; rw [m.out] at e; cases e) (f.ok.inH b o e)
  obtain ⟨h', tk, rfl, hs⟩ := m.same
  exact ⟨f.stp.write hm m.out hs tk, ha, hb, hi⟩
theorem VarAt.other {K : KM} {s s' : Shared} {a : Addr} (f : Fr prog w c α K s) (m : Moved c K s a s') {y : Str} {u : Value} (hv : VarAt c.env s.heap y u)
    (hl : a ≠ c.env.locals ∨ ∀ m₀, s.heap.Ns c.env.locals m₀ → ∃ m₁, s'.heap.Ns c.env.locals m₁ ∧ m₁ y = m₀ y) (hc : c.env.cells.lookup y ≠ some a) : VarAt c.env s'.heap y u := by
  cases hv with
  | loc m0 h1 h2 h3 =>
    rcases hl with hl | hl
    · exact .loc m0 h1 (h2.at' fun o e => m.get (Ne.symm hl) e) h3
    · obtain ⟨m1, k1, k2⟩ := hl m0 h2
      exact .loc m1 h1 k1 (k2.trans h3)
  | cell b h1 h2 h3 =>
    obtain ⟨o, ho, hd⟩ := h3
    exact .cell b h1 h2 ⟨o, m.get (fun e => hc (e ▸ h2)) ho, hd⟩
  | free b h1 h2 h3 h4 =>
    obtain ⟨o, ho, hd⟩ := h3
    exact .free b h1 h2 ⟨o, m.get (fun e => hc (e ▸ h2)) ho, hd⟩ h4
  | glob m0 h1 h2 h3 =>
    refine .glob m0 h1 (h2.at' fun o e => m.get (fun q => ?_) e) h3
    obtain ⟨mg, mb, ⟨o', _, _, e', _⟩, _⟩ := f.ok.mod.glob
    exact m.base o' (q ▸ e')

/-- may x be written? -/
def slot (env : Env) (x : Str) : Bool := match env.kindOf x with
  | some .local => true
  | some .cell => (env.cells.lookup x).isSome
  | _ => false
structure Wrote (prog : Program) (w : World) (c : Cx) (α : Anc) (K : KM) (s : Shared) (x : Str) (v : Value) (s' : Shared) : Prop where
  at_ : VarAt c.env s'.heap x v
  oth : ∀ y u, y ≠ x → VarAt c.env s.heap y u → VarAt c.env s'.heap y u
  moved : ∃ a, Moved c K s a s' ∧ α.may a ∧ (a = c.env.locals ∨ ∃ n, c.env.cells.lookup n = some a)
  ns : ∃ m, s'.heap.Ns c.env.locals m
  cel : ∀ n a, c.env.cells.lookup n = some a → ∃ v, s'.heap.IsCell a v
theorem store_core {K : KM} {s : Shared} {x : Str} {v : Value} {Q : Unit → Shared → Prop} {E : Value → Shared → Prop} (f : Fr prog w c α K s) (hx : slot c.env x = true) (q : ∀ s', Wrote prog w c α K s x v s' → Q () s') : wpAny (model prog w) c.A (storeName c.env x v) Q E s := by
  have hkf := f.ok.env.kind
  unfold slot at hx
  split at hx
  · rename_i hk
    obtain ⟨m, hn⟩ := f.ns
    refine wpAny_storeName_local hk hn (fun h' hn' hs' => ?_) (by rw [hkf]; rfl)
    have mv : Moved c K s c.env.locals { s with heap := h', toks := s.toks + 1 } := ⟨f.loc.1, ⟨h', _, rfl, hs'⟩, let ⟨o, _, _, e, _⟩ := hn'; ⟨o, e⟩, fun o e => (f.base _ o e).1 rfl⟩
    refine q _ ⟨.loc _ hk hn' (by simp), fun y u hy hv => hv.other f mv (.inr fun m₀ h => ⟨_, hn', ?_⟩) (fun h => (f.cel y _ h).2.2.2 rfl), ⟨_, mv, f.loc.2, .inl rfl⟩, ⟨_, hn'⟩, fun n a h => ?_⟩
    · rw [ns_same h hn, if_neg hy]
    · obtain ⟨⟨v, o, e1, e2⟩, _, _, hne⟩ := f.cel n a h
      exact ⟨v, o, mv.get hne e1, e2⟩
  · rename_i hk
    obtain ⟨a, ha⟩ := Option.isSome_iff_exists.mp hx
    obtain ⟨⟨v₀, hv₀⟩, hKa, hma, hne⟩ := f.cel x a ha
    refine wpAny_storeName_cell hkf hk ha hv₀ fun h' hc' hs' => ?_
    have mv : Moved c K s a { s with heap := h' } := ⟨hKa, ⟨h', s.toks, rfl, hs'⟩, let ⟨o, e, _⟩ := hc'; ⟨o, e⟩, fun o e => (f.base _ o e).2.1 x a ha rfl⟩
    obtain ⟨m, hn⟩ := f.ns
    refine q _ ⟨.cell a hk ha hc', fun y u hy hv => hv.other f mv (.inl hne) (fun h => hy (f.inj _ _ _ h ha)), ⟨_, mv, hma, .inr ⟨x, ha⟩⟩, ⟨m, hn.at' fun o e => mv.get (Ne.symm hne) e⟩, fun n b h => ?_⟩
    by_cases hb : b = a
    · subst hb; exact ⟨_, hc'⟩
    · obtain ⟨⟨v, o, e1, e2⟩, _⟩ := f.cel n b h
      exact ⟨v, o, mv.get hb e1, e2⟩
  · cases hx
theorem own_notslot {K : KM} {s : Shared} (f : Fr prog w c α K s) {a : Addr} (h : a = c.env.locals ∨ ∃ n, c.env.cells.lookup n = some a) {x : Str} {p : Addr × D} (hp : c.O.lookup x = some p) : p.1 ≠ a := by
  obtain ⟨_, h2, h3⟩ := f.own x p hp
  rcases h with rfl | ⟨n, h⟩
  · exact h2
  · exact h3 n a h
theorem Fr.wrote_own {K : KM} {s s' : Shared} {x : Str} {v : Value} (f : Fr prog w c α K s) (wr : Wrote prog w c α K s x v s') {y : Str} {a : Addr} {d : D} (hy : y ≠ x) (h : c.O.lookup y = some (a, d)) : VarAt c.env s'.heap y (.ref a) ∧ K a = none ∧ TopAt prog w K s'.heap a d := by
  obtain ⟨h1, h2, h3⟩ := f.ok.own y a d h
  obtain ⟨b, mv, _, hb⟩ := wr.moved
  exact ⟨wr.oth y _ hy h1, h2, h3.at_ fun o e => mv.get (own_notslot f hb h) e⟩
theorem Fr.stored {K : KM} {s s' : Shared} {x : Str} {v : Value} {d : D} (f : Fr prog w c α K s) (wr : Wrote prog w c α K s x v s') (r : Rep prog w K v d) (hO : c.O.lookup x = none) : Fr prog w { c with ρ := (x, d) :: c.ρ } α K s' := by
  obtain ⟨b, mv, hmay, hb⟩ := wr.moved
  obtain ⟨m1, m2, m3, m4⟩ := f.moved mv hmay
  refine ⟨⟨f.ok.env, f.ok.mod, f.ok.hand, f.ok.kb, m3, m4, fun y e h => ?_, fun y a e h => f.wrote_own wr (fun q => by subst q; rw [hO] at h; cases h) h⟩, m1, m2, wr.ns, f.loc, fun n a h => ⟨wr.cel n a h, (f.cel n a h).2⟩, f.inj, f.own, f.apart, f.base⟩
  by_cases hy : y = x
  · subst hy
    have h' : some d = some e := by rw [← h]; exact (by rw [lookup_two, if_pos rfl])
    cases h'
    exact ⟨v, wr.at_, r⟩
  · have h' : c.ρ.lookup y = some e := by rw [← h]; exact (by rw [lookup_two, if_neg hy])
    obtain ⟨u, h1, h2⟩ := f.ok.vars y e h'
    exact ⟨u, wr.oth y u hy h1, h2⟩
theorem Fr.storedOwn {K : KM} {s s' : Shared} {x : Str} {a : Addr} {d : D} (f : Fr prog w c α K s) (wr : Wrote prog w c α K s x (.ref a) s') (hK : K a = none) (t : TopAt prog w K s.heap a d) (hmay : α.may a)
    (ha : a ≠ c.env.locals ∧ ∀ n b, c.env.cells.lookup n = some b → a ≠ b) (hap : ∀ y p, c.O.lookup y = some p → p.1 ≠ a) (hba : ∀ o, c.B.get? a ≠ some o) (hρ : c.ρ.lookup x = none) : Fr prog w { c with O := (x, a, d) :: c.O } α K s' := by
  obtain ⟨b, mv, hmayb, hb⟩ := wr.moved
  obtain ⟨m1, m2, m3, m4⟩ := f.moved mv hmayb
  have hab : a ≠ b := by
    rcases hb with rfl | ⟨n, h⟩
    · exact ha.1
    · exact ha.2 n b h
  have get : ∀ y p, ((x, a, d) :: c.O).lookup y = some p → y = x ∧ p = (a, d) ∨ y ≠ x ∧ c.O.lookup y = some p := fun y p h => by
    rw [lookup_two] at h
    by_cases hy : y = x
    · rw [if_pos hy] at h; cases h; exact .inl ⟨hy, rfl⟩
    · rw [if_neg hy] at h; exact .inr ⟨hy, h⟩
  refine ⟨⟨f.ok.env, f.ok.mod, f.ok.hand, f.ok.kb, m3, m4, fun y e h => ?_, fun y a' e h => ?_⟩, m1, m2, wr.ns, f.loc, fun n a h => ⟨wr.cel n a h, (f.cel n a h).2⟩, f.inj, fun y p h => ?_, fun y z p q h h' hne => ?_, fun b' o h => ⟨(f.base b' o h).1, (f.base b' o h).2.1, fun y p h' => ?_⟩⟩
  · have hy : y ≠ x := fun q => by subst q; have h : c.ρ.lookup y = some e := h; rw [hρ] at h; cases h
    obtain ⟨u, h1, h2⟩ := f.ok.vars y e h
    exact ⟨u, wr.oth y u hy h1, h2⟩
  · rcases get y _ h with ⟨rfl, e1⟩ | ⟨hy, h⟩
    · cases e1
      exact ⟨wr.at_, hK, t.at_ fun o e => mv.get hab e⟩
    · exact f.wrote_own wr hy h
  · rcases get y _ h with ⟨rfl, rfl⟩ | ⟨hy, h⟩
    · exact ⟨hmay, ha.1, ha.2⟩
    · exact f.own y p h
  · rcases get y _ h with ⟨e1, rfl⟩ | ⟨hy, g⟩
    · rcases get z _ h' with ⟨e2, rfl⟩ | ⟨hz, g'⟩
      · exact absurd (e1.trans e2.symm) hne
      · exact (hap z q g').symm
    · rcases get z _ h' with ⟨e2, rfl⟩ | ⟨hz, g'⟩
      · exact hap y p g
      · exact f.apart y z p q g g' hne
  · rcases get y _ h' with ⟨e1, rfl⟩ | ⟨hy, g'⟩
    · exact fun q => by
        have q' : b' = a := q
        subst q'
        exact hba o h
    · exact (f.base b' o h).2.2 y p g'
/-- an own object has been written -/
theorem Fr.touched {K : KM} {s : Shared} {x : Str} {a : Addr} {d d' : D} {h' : Heap} (tk : Nat) (f : Fr prog w c α K s) (hx : c.O.lookup x = some (a, d)) (hs : Heap.SameBut a s.heap h') (t : TopAt prog w K h' a d') : Fr prog w { c with O := (x, a, d') :: c.O } α K { s with heap := h', toks := tk } := by
  obtain ⟨h1, h2, h3⟩ := f.ok.own x a d hx
  obtain ⟨k1, k2, k3⟩ := f.own x _ hx
  have al : ∃ o, h'.get? a = some o := by cases t with
    | tuple h => exact ⟨_, h⟩
    | list h => exact ⟨_, h⟩
    | dict h => exact ⟨_, h⟩
  have mv : Moved c K s a { s with heap := h', toks := tk } := ⟨h2, ⟨h', tk, rfl, hs⟩, al, fun o e => (f.base a o e).2.2 x _ hx rfl⟩
  obtain ⟨m1, m2, m3, m4⟩ := f.moved mv k1
  have oth : ∀ y u, VarAt c.env s.heap y u → VarAt c.env h' y u := fun y u hv => hv.other f mv (.inl k2) (fun e => k3 y a e rfl)
  have get : ∀ y p, ((x, a, d') :: c.O).lookup y = some p → y = x ∧ p = (a, d') ∨ y ≠ x ∧ c.O.lookup y = some p := fun y p h => by
    rw [lookup_two] at h
    by_cases hy : y = x
    · rw [if_pos hy] at h; cases h; exact .inl ⟨hy, rfl⟩
    · rw [if_neg hy] at h; exact .inr ⟨hy, h⟩
  have old : ∀ y p, ((x, a, d') :: c.O).lookup y = some p → ∃ p', c.O.lookup y = some p' ∧ p'.1 = p.1 := fun y p h => by
    rcases get y p h with ⟨rfl, rfl⟩ | ⟨_, h⟩
    · exact ⟨_, hx, rfl⟩
    · exact ⟨p, h, rfl⟩
  refine ⟨⟨f.ok.env, f.ok.mod, f.ok.hand, f.ok.kb, m3, m4, fun y e h => ?_, fun y a' e h => ?_⟩, m1, m2, ?_, f.loc, fun n b h => ⟨?_, (f.cel n b h).2⟩, f.inj, fun y p h => ?_, fun y z p q h h' hne => ?_, fun b' o h => ⟨(f.base b' o h).1, (f.base b' o h).2.1, fun y p h' => ?_⟩⟩
  · obtain ⟨u, h1, h2⟩ := f.ok.vars y e h
    exact ⟨u, oth y u h1, h2⟩
  · rcases get y _ h with ⟨rfl, e1⟩ | ⟨hy, h⟩
    · cases e1
      exact ⟨oth _ _ h1, h2, t⟩
    · obtain ⟨g1, g2, g3⟩ := f.ok.own y a' e h
      exact ⟨oth _ _ g1, g2, g3.at_ fun o e => mv.get (f.apart y x _ _ h hx hy) e⟩
  · obtain ⟨m, hn⟩ := f.ns
    exact ⟨m, hn.at' fun o e => mv.get (Ne.symm k2) e⟩
  · obtain ⟨⟨v, o, e1, e2⟩, _⟩ := f.cel n b h
    exact ⟨v, o, mv.get (fun q => k3 n b h q.symm) e1, e2⟩
  · obtain ⟨p', e1, e2⟩ := old y p h
    rw [← e2]; exact f.own y p' e1
  · obtain ⟨p', e1, e2⟩ := old y p h
    obtain ⟨q', g1, g2⟩ := old z q h'
    rw [← e2, ← g2]; exact f.apart y z p' q' e1 g1 hne
  · obtain ⟨p', e1, e2⟩ := old y p h'
    rw [← e2]; exact (f.base b' o h).2.2 y p' e1
/-- an own object is sealed -/
theorem Fr.seal {K : KM} {s : Shared} {x : Str} {a : Addr} {d : D} {O' : List (Str × Addr × D)} (f : Fr prog w c α K s) (hx : c.O.lookup x = some (a, d)) (hW : a ∉ α.W) (hO : ∀ y p, O'.lookup y = some p → y ≠ x ∧ c.O.lookup y = some p) : ∃ K', Fr prog w { c with ρ := (x, d) :: c.ρ, O := O' } α K' s ∧ Sub K K' := by
  obtain ⟨h1, h2, h3⟩ := f.ok.own x a d hx
  obtain ⟨k1, k2, k3⟩ := f.own x _ hx
  obtain ⟨o, ho, r⟩ := h3.seal f.ok.inH h2
  have sub : Sub K (K.set a o) := KM.sub_set h2
  have stp : Stp α.W α.K α.s (K.set a o) s := by
    refine ⟨f.stp.same, f.stp.kept, f.stp.sub.trans sub, KM.in_set f.ok.inH ho, fun b o' e1 e2 => ?_, fun b hb => ?_⟩
    · by_cases hb : b = a
      · subst hb
        rcases k1 with k1 | k1
        · exact absurd k1 hW
        · exact k1
      · simp [KM.set, hb] at e1; exact f.stp.fresh b o' e1 e2
    · have : b ≠ a := fun q => hW (q ▸ hb)
      simp [KM.set, this]; exact f.stp.out b hb
  refine ⟨K.set a o, ⟨⟨f.ok.env, f.ok.mod, f.ok.hand, f.ok.kb.trans sub, f.ok.base, KM.in_set f.ok.inH ho, fun y e h => ?_, fun y b e h => ?_⟩, stp, f.alive, f.ns, ⟨?_, f.loc.2⟩, fun n b h => ?_, f.inj, fun y p h => f.own y p (hO y p h).2, fun y z p q h h' hne => f.apart y z p q (hO y p h).2 (hO z q h').2 hne,
    fun b' o' h => ⟨(f.base b' o' h).1, (f.base b' o' h).2.1, fun y p h' => (f.base b' o' h).2.2 y p (hO y p h').2⟩⟩, sub⟩
  · by_cases hy : y = x
    · subst hy
      have h' : some d = some e := by rw [← h]; exact (by rw [lookup_two, if_pos rfl])
      cases h'
      exact ⟨_, h1, r⟩
    · have h' : c.ρ.lookup y = some e := by rw [← h]; exact (by rw [lookup_two, if_neg hy])
      obtain ⟨u, g1, g2⟩ := f.ok.vars y e h'
      exact ⟨u, g1, g2.mono sub⟩
  · obtain ⟨hy, h⟩ := hO y _ h
    obtain ⟨g1, g2, g3⟩ := f.ok.own y b e h
    have hne : b ≠ a := f.apart y x _ _ h hx hy
    refine ⟨g1, by simp [KM.set, hne]; exact g2, ?_⟩
    cases g3 with
    | tuple h1 h2 h3 h4 h5 => exact .tuple h1 h2 h3 (h4.mono sub) h5
    | list h1 h2 h3 h4 h5 h6 => exact .list h1 h2 h3 (h4.mono sub) h5 h6
    | dict h1 h2 h3 h4 h5 h6 h7 h8 => exact .dict h1 h2 h3 h4 h5 (h6.mono sub) h7 h8
  · have : c.env.locals ≠ a := Ne.symm k2
    simp [KM.set, this]; exact f.loc.1
  · obtain ⟨g1, g2, g3⟩ := f.cel n b h
    have : b ≠ a := fun q => k3 n b h q.symm
    exact ⟨g1, by simp [KM.set, this]; exact g2, g3⟩
end
end Mine
namespace Mine

/-! ## statements -/
def wpS (prog : Program) (w : World) (A : Around) (env : Env) (R : Flow → Shared → Prop) (E : Value → Shared → Prop) : List (List Stmt) → Shared → Prop
  | [], s => R .next s
  | b :: bs, s => wpAny (model prog w) A (execs b env) (fun f s' => match f with | .next => wpS prog w A env R E bs s' | f => R f s') E s
def Runs (prog : Program) (w : World) (c : Cx) (α : Anc) (bs : List (List Stmt)) (R : Flow → Shared → Prop) : Prop :=
  ∀ (K : KM) (s : Shared) (E : Value → Shared → Prop), Fr prog w c α K s → wpS prog w c.A c.env R E bs s

section
variable {prog : Program} {w : World} {c : Cx} {α : Anc} {R : Flow → Shared → Prop} {bs : List (List Stmt)} {rest : List Stmt}
theorem wpS_cons {A : Around} {env : Env} {E : Value → Shared → Prop} {st : Stmt} {s : Shared} (h : wpAny (model prog w) A (exec st env) (fun f s' => match f with | .next => wpS prog w A env R E (rest :: bs) s' | f => R f s') E s) : wpS prog w A env R E ((st :: rest) :: bs) s := by
  show wpAny _ _ (execs (st :: rest) env) _ _ _
  refine wpAny_execs_cons (wpAny_mono h (fun f s' hf => ?_) fun _ _ x => x)
  cases f <;> exact hf
theorem runs_end (h : ∀ K s, Fr prog w c α K s → R .next s) : Runs prog w c α [] R := fun K s E f => h K s f
theorem runs_pop (h : Runs prog w c α bs R) : Runs prog w c α ([] :: bs) R := fun K s E f => wpAny_execs_nil (h K s E f)

theorem runs_assign {x : Str} {px pos : Pos} {e : Expr} {d : D} (he : Ev prog w c e d) (hr : Runs prog w { c with ρ := (x, d) :: c.ρ } α (rest :: bs) R)
    (hs : swapsWith e (some (.Name x px)) pos.line c.env = pure false := by rfl) (hx : slot c.env x = true := by rfl) (hO : c.O.lookup x = none := by rfl) : Runs prog w c α ((.Assign [.Name x px] e pos :: rest) :: bs) R := fun K s E f =>
  wpS_cons (wpAny_Assign_Name (he K s _ E f.ok fun K1 v s1 n1 r1 => store_core (f.next n1) hx fun s2 wr => hr K1 s2 E ((f.next n1).stored wr r1 hO)) hs)

theorem fresh_anchor {K : KM} {s : Shared} (f : Fr prog w c α K s) {a : Addr} (h : s.heap.get? a = none) : a ∉ α.W ∧ α.s.heap.get? a = none := by
  have h1 : a ∉ α.W := fun hm => by
    obtain ⟨o, e⟩ := f.alive a hm
    rw [h] at e; cases e
  refine ⟨h1, ?_⟩
  cases q : α.s.heap.get? a with
  | none => rfl
  | some o => rw [f.stp.kept a o h1 q] at h; cases h
theorem ns_alive {K : KM} {s : Shared} (f : Fr prog w c α K s) : ∃ o, s.heap.get? c.env.locals = some o := let ⟨_, o, _, _, e, _⟩ := f.ns; ⟨o, e⟩
theorem top_alive {K : KM} {h : Heap} {a : Addr} {d : D} (t : TopAt prog w K h a d) : ∃ o, h.get? a = some o := by
  cases t with
  | tuple h => exact ⟨_, h⟩
  | list h => exact ⟨_, h⟩
  | dict h => exact ⟨_, h⟩
theorem fresh_apart {K : KM} {s : Shared} (f : Fr prog w c α K s) {a : Addr} (h : s.heap.get? a = none) : (a ≠ c.env.locals ∧ ∀ n b, c.env.cells.lookup n = some b → a ≠ b) ∧ (∀ y p, c.O.lookup y = some p → p.1 ≠ a) ∧ (∀ o, c.B.get? a ≠ some o) := by
  refine ⟨⟨fun q => ?_, fun n b hb q => ?_⟩, fun y p hp q => ?_, fun o q => ?_⟩
  · obtain ⟨o, e⟩ := ns_alive f
    rw [← q, h] at e; cases e
  · obtain ⟨⟨v, o, e, _⟩, _⟩ := f.cel n b hb
    rw [← q, h] at e; cases e
  · obtain ⟨_, _, t⟩ := f.ok.own y p.1 p.2 hp
    obtain ⟨o, e⟩ := top_alive t
    rw [q, h] at e; cases e
  · have := f.ok.base a o q
    rw [h] at this; cases this
theorem Fr.storedNew {K K1 : KM} {s s1 s2 : Shared} {x : Str} {a : Addr} {d : D} (f : Fr prog w c α K s) (n1 : Next K s K1 s1) (hf : s.heap.get? a = none) (hn : K1 a = none) (t : TopAt prog w K1 s1.heap a d) (wr : Wrote prog w c α K1 s1 x (.ref a) s2) (hρ : c.ρ.lookup x = none) :
    a ∉ α.W ∧ Fr prog w { c with O := (x, a, d) :: c.O } α K1 s2 := by
  obtain ⟨h1, h2⟩ := fresh_anchor f hf
  obtain ⟨h3, h4, h5⟩ := fresh_apart f hf
  exact ⟨h1, (f.next n1).storedOwn wr hn t (.inr h2) h3 h4 h5 hρ⟩
theorem runs_assign_own {x : Str} {px pos : Pos} {e : Expr} {d : D} (he : EvN prog w c e d) (hr : ∀ a, a ∉ α.W → Runs prog w { c with O := (x, a, d) :: c.O } α (rest :: bs) R)
    (hs : swapsWith e (some (.Name x px)) pos.line c.env = pure false := by rfl) (hx : slot c.env x = true := by rfl) (hρ : c.ρ.lookup x = none := by rfl) : Runs prog w c α ((.Assign [.Name x px] e pos :: rest) :: bs) R := fun K s E f =>
  wpS_cons (wpAny_Assign_Name (he K s _ E f.ok fun K1 a s1 n1 hf hn t => store_core (f.next n1) hx fun s2 wr => by
    obtain ⟨h1, h2⟩ := f.storedNew n1 hf hn t wr hρ
    exact hr a h1 K1 s2 E h2) hs)

/-- an object that nothing of the frame holds changes -/
theorem Fr.forget {K : KM} {s : Shared} {a : Addr} {h' : Heap} (f : Fr prog w c α K s) (hs : Heap.SameBut a s.heap h') (hK : K a = none) (hW : a ∉ α.W) (hα : α.s.heap.get? a = none) (ha : a ≠ c.env.locals ∧ ∀ n b, c.env.cells.lookup n = some b → a ≠ b) (hO : ∀ y p, c.O.lookup y = some p → p.1 ≠ a) (hB : ∀ o, c.B.get? a ≠ some o)
    (tk : Nat) : Fr prog w c α K { s with heap := h', toks := tk } := by
  have get : ∀ b o, b ≠ a → s.heap.get? b = some o → h'.get? b = some o := fun b o hb e => (hs.2 b hb).trans e
  have var : ∀ y u, VarAt c.env s.heap y u → VarAt c.env h' y u := fun y u hv => by
    cases hv with
    | loc m0 h1 h2 h3 => exact .loc m0 h1 (h2.at' fun o e => get _ o ha.1.symm e) h3
    | cell b h1 h2 h3 =>
      obtain ⟨o, ho, hd⟩ := h3
      exact .cell b h1 h2 ⟨o, get b o (ha.2 y b h2).symm ho, hd⟩
    | free b h1 h2 h3 h4 =>
      obtain ⟨o, ho, hd⟩ := h3
      exact .free b h1 h2 ⟨o, get b o (ha.2 y b h2).symm ho, hd⟩ h4
    | glob m0 h1 h2 h3 =>
      refine .glob m0 h1 (h2.at' fun o e => get _ o (fun q => ?_) e) h3
      obtain ⟨mg, mb, ⟨o', _, _, e', _⟩, _⟩ := f.ok.mod.glob
      exact hB o' (q ▸ e')
  refine ⟨⟨f.ok.env, f.ok.mod, f.ok.hand, f.ok.kb, fun b o e => get b o (fun q => hB o (q ▸ e)) (f.ok.base b o e), fun b o e => get b o (fun q => by subst q; rw [hK] at e; cases e) (f.ok.inH b o e), fun y d h => ?_, fun y b d h => ?_⟩,
    f.stp.write (.inr hα) hK hs tk, fun b hb => let ⟨o, e⟩ := f.alive b hb; ⟨o, get b o (fun q => hW (q ▸ hb)) e⟩, ?_, f.loc, fun n b h => ?_, f.inj, f.own, f.apart, f.base⟩
  · obtain ⟨u, h1, h2⟩ := f.ok.vars y d h
    exact ⟨u, var y u h1, h2⟩
  · obtain ⟨h1, h2, h3⟩ := f.ok.own y b d h
    exact ⟨var y _ h1, h2, h3.at_ fun o e => get b o (hO y _ h) e⟩
  · obtain ⟨m, hn⟩ := f.ns
    exact ⟨m, hn.at' fun o e => get _ o ha.1.symm e⟩
  · obtain ⟨⟨v, o, e1, e2⟩, r⟩ := f.cel n b h
    exact ⟨⟨v, o, get b o (ha.2 n b h).symm e1, e2⟩, r⟩

theorem comp_used {Cc : Addr} {K K' : KM} {s s' : Shared} {x : Str} {px : Pos} {Dd : Addr} {d : D} {m : Str → Option Value} {E : Value → Shared → Prop} {Q : Value → Shared → Prop} (f : Fr prog w c α K s) (hx : slot c.env x = true) (hρ : c.ρ.lookup x = none)
    (n : Next K s K' s') (hD : s.heap.get? Dd = none) (hKD : K' Dd = none) (t : TopAt prog w K' s'.heap Dd d) (hC : s.heap.get? Cc = none) (hKC : K' Cc = none) (hCD : Cc ≠ Dd) (hns : s'.heap.Ns Cc m)
    (q : ∀ s'', Dd ∉ α.W → Fr prog w { c with O := (x, Dd, d) :: c.O } α K' s'' → Q .none s'') : compPost (model prog w) c.A E (some (assign (.Name x px) c.env)) Q (.ref Dd) Cc (.ok .next) s' := by
  show wpAny _ c.A (assign (.Name x px) c.env (.ref Dd)) _ _ _
  refine wpAny_assign_Name (store_core (f.next n) hx fun s2 wr => ?_)
  obtain ⟨h1, h2⟩ := f.storedNew n hD hKD t wr hρ
  obtain ⟨b, mv, _, hb⟩ := wr.moved
  obtain ⟨g1, g2, g3⟩ := fresh_apart f hC
  have hCb : Cc ≠ b := by
    rcases hb with rfl | ⟨n, h⟩
    · exact g1.1
    · exact g1.2 n b h
  obtain ⟨a1, a2⟩ := fresh_anchor f hC
  refine ⟨m, hns.at' fun o e => mv.get hCb e, fun h' hs' => q _ h1 (h2.forget hs' hKC a1 a2 g1 (fun y p h => ?_) g3 s2.toks)⟩
  rw [lookup_two] at h
  by_cases hy : y = x
  · rw [if_pos hy] at h; cases h; exact hCD.symm
  · rw [if_neg hy] at h; exact g2 y p h
theorem runs_comp {elt tgt iter : Expr} {ifs : List Expr} {scope : Scope} {cpos : Pos} {T : Type} {xs : List T} {φ : T → D} {p : T → Bool} {g : T → D} {β : T → List (Str × D)} {x : Str} {px pos : Pos} (ρ' : List (Str × D))
    (hit : EvIt prog w c tgt iter (xs.map φ)) (hc : CompOk c scope) (hρ' : Passes c.env scope c.ρ ρ')
    (hput : ∀ d ∈ xs, ∀ C, Puts prog w c.A (compEnvC scope (gath c.env scope.names []) C c.env) tgt (φ d) (β d)) (hβ : ∀ d ∈ xs, locals? scope (β d) = true)
    (htest : ∀ d ∈ xs, ∀ C, EvF prog w (c.inn scope C (β d ++ ρ')) ifs (p d)) (helt : ∀ d ∈ xs, p d = true → ∀ C, Ev prog w (c.inn scope C (β d ++ ρ')) elt (g d))
    (hr : ∀ a, a ∉ α.W → Runs prog w { c with O := (x, a, .list ((xs.filter p).map g)) :: c.O } α (rest :: bs) R)
    (hs : swapsWith (.ListComp elt [⟨tgt, iter, ifs, 0⟩] scope cpos) (some (.Name x px)) pos.line c.env = pure true := by rfl) (hx : slot c.env x = true := by rfl) (hρ : c.ρ.lookup x = none := by rfl)
    (hf : ∀ x, foldedSetIterable iter c.env x = pure x := by intro _; rfl) : Runs prog w c α ((.Assign [.Name x px] (.ListComp elt [⟨tgt, iter, ifs, 0⟩] scope cpos) pos :: rest) :: bs) R := fun K s E f => wpS_cons (by
  rw [exec_Assign_Name_used _ _ _ _ hs]
  refine wpAny_bind (wpAny_standAt (wpAny_bind ?_))
  show wpAny _ c.A (do let _ ← comprehension (.ListComp elt [⟨tgt, iter, ifs, 0⟩] scope cpos) scope c.env _ (newList []) false (eval iter c.env) (some (assign (.Name x px) c.env))) _ _ s
  exact wpAny_bind (wpAny_mono (comp_list (use := some (assign (.Name x px) c.env)) (Q := fun _ s' => wpS prog w c.A c.env R E (rest :: bs) s') f.ok hit hc hρ' hput hβ htest helt hf fun K' D C s' m n hD hKD t hC hKC hCD hns => comp_used f hx hρ n hD hKD t hC hKC hCD hns fun s'' h1 h2 => hr D h1 K' s'' E h2) (fun _ s' hq => wpAny_pure (wpAny_pure hq)) fun _ _ e => e))
theorem runs_dcomp {kx vx tgt iter : Expr} {ifs : List Expr} {scope : Scope} {cpos : Pos} {T : Type} {xs : List T} {φ : T → D} {p : T → Bool} {kf : T → Key} {vf : T → D} {β : T → List (Str × D)} {x : Str} {px pos : Pos} (ρ' : List (Str × D))
    (hit : EvIt prog w c tgt iter (xs.map φ)) (hc : CompOk c scope) (hρ' : Passes c.env scope c.ρ ρ')
    (hput : ∀ d ∈ xs, ∀ C, Puts prog w c.A (compEnvC scope (gath c.env scope.names []) C c.env) tgt (φ d) (β d)) (hβ : ∀ d ∈ xs, locals? scope (β d) = true)
    (htest : ∀ d ∈ xs, ∀ C, EvF prog w (c.inn scope C (β d ++ ρ')) ifs (p d)) (helt : ∀ d ∈ xs, p d = true → ∀ C, Ev prog w (c.inn scope C (β d ++ ρ')) kx (keyD (kf d)) ∧ Ev prog w (c.inn scope C (β d ++ ρ')) vx (vf d))
    (hr : ∀ a, a ∉ α.W → Runs prog w { c with O := (x, a, mkD (dfold kf vf (xs.filter p))) :: c.O } α (rest :: bs) R)
    (hs : swapsWith (.DictComp kx vx [⟨tgt, iter, ifs, 0⟩] scope cpos) (some (.Name x px)) pos.line c.env = pure true := by rfl) (hx : slot c.env x = true := by rfl) (hρ : c.ρ.lookup x = none := by rfl)
    (hf : ∀ x, foldedSetIterable iter c.env x = pure x := by intro _; rfl) : Runs prog w c α ((.Assign [.Name x px] (.DictComp kx vx [⟨tgt, iter, ifs, 0⟩] scope cpos) pos :: rest) :: bs) R := fun K s E f => wpS_cons (by
  rw [exec_Assign_Name_used _ _ _ _ hs]
  refine wpAny_bind (wpAny_standAt (wpAny_bind ?_))
  show wpAny _ c.A (do let _ ← comprehension (.DictComp kx vx [⟨tgt, iter, ifs, 0⟩] scope cpos) scope c.env _ newDict false (eval iter c.env) (some (assign (.Name x px) c.env))) _ _ s
  exact wpAny_bind (wpAny_mono (comp_dict (use := some (assign (.Name x px) c.env)) (Q := fun _ s' => wpS prog w c.A c.env R E (rest :: bs) s') f.ok hit hc hρ' hput hβ htest helt hf fun K' D C s' m n hD hKD t hC hKC hCD hns => comp_used f hx hρ n hD hKD t hC hKC hCD hns fun s'' h1 h2 => hr D h1 K' s'' E h2) (fun _ s' hq => wpAny_pure (wpAny_pure hq)) fun _ _ e => e))

theorem runs_seal (x : Str) {a : Addr} {d : D} {O' : List (Str × Addr × D)} (hr : Runs prog w { c with ρ := (x, d) :: c.ρ, O := O' } α bs R) (hW : a ∉ α.W) (hx : c.O.lookup x = some (a, d) := by rfl) (hO : ∀ y p, O'.lookup y = some p → y ≠ x ∧ c.O.lookup y = some p) : Runs prog w c α bs R := fun K s E f => by
  obtain ⟨K', f', _⟩ := f.seal hx hW hO
  exact hr K' s E f'
theorem runs_less {ρ' : List (Str × D)} {O' : List (Str × Addr × D)} (hr : Runs prog w { c with ρ := ρ', O := O' } α bs R) (hρ : ∀ x d, ρ'.lookup x = some d → c.ρ.lookup x = some d) (hO : ∀ x p, O'.lookup x = some p → c.O.lookup x = some p) : Runs prog w c α bs R := fun K s E f =>
  hr K s E (f.less hρ hO)

/-! own objects lent to a test -/
def anc0 (s : Shared) : Anc := ⟨[], fun _ => none, { s with heap := { s.heap with objs := #[] } }⟩
theorem anc0_none (s : Shared) (a : Addr) : (anc0 s).s.heap.get? a = none := none_ge (Nat.zero_le _)
theorem Fr.free {K : KM} {s : Shared} (f : Fr prog w c α K s) : Fr prog w c (anc0 s) K s :=
  ⟨f.ok, ⟨⟨s.heap, s.toks, rfl⟩, fun b o _ e => (by rw [anc0_none] at e; cases e), fun a o e => (by cases e), f.ok.inH, fun a o _ _ => anc0_none s a, fun b hb => (by cases hb)⟩, fun b hb => (by cases hb), f.ns, ⟨f.loc.1, .inr (anc0_none s _)⟩,
    fun n a h => let ⟨h1, h2, _, h4⟩ := f.cel n a h; ⟨h1, h2, .inr (anc0_none s a), h4⟩, f.inj, fun x p h => ⟨.inr (anc0_none s _), (f.own x p h).2⟩, f.apart, f.base⟩
def Borrow (prog : Program) (w : World) (c : Cx) (ρ' : List (Str × D)) (O' : List (Str × Addr × D)) : Prop := ∀ K s, Fr prog w c (anc0 s) K s → ∃ K', Fr prog w { c with ρ := ρ', O := O' } (anc0 s) K' s
theorem borrow_refl : Borrow prog w c c.ρ c.O := fun K s f => ⟨K, f⟩
theorem borrow_one (x : Str) {a : Addr} {d : D} {O₁ O' : List (Str × Addr × D)} {ρ' : List (Str × D)} (h : Borrow prog w { c with ρ := (x, d) :: c.ρ, O := O₁ } ρ' O') (hx : c.O.lookup x = some (a, d) := by rfl) (hO : ∀ y p, O₁.lookup y = some p → y ≠ x ∧ c.O.lookup y = some p) : Borrow prog w c ρ' O' := fun K s f => by
  obtain ⟨K1, f1, _⟩ := f.seal hx (by intro h; cases h) hO
  exact h K1 s f1
theorem runs_if {ρ' : List (Str × D)} {O' : List (Str × Addr × D)} {t : Expr} {b : Bool} {body orelse : List Stmt} {pos : Pos} (hb : Borrow prog w c ρ' O') (ht : EvT prog w { c with ρ := ρ', O := O' } t b) (hr : Runs prog w c α ((if b then body else orelse) :: rest :: bs) R) :
    Runs prog w c α ((.If t body orelse pos :: rest) :: bs) R := fun K s E f => wpS_cons (wpAny_If (by
  obtain ⟨K1, f1⟩ := hb K s f.free
  refine ht K1 s _ E f1.ok fun K2 s2 n2 => ?_
  have n' : Next K s K s2 := .keep f.ok.inH n2.keeps
  have := hr K s2 E (f.next n')
  cases b <;> exact this))
theorem runs_if_true {t : Expr} {body orelse : List Stmt} {pos : Pos} (ht : EvT prog w c t true) (hr : Runs prog w c α (body :: rest :: bs) R) : Runs prog w c α ((.If t body orelse pos :: rest) :: bs) R := runs_if borrow_refl ht hr
theorem runs_if_false {t : Expr} {body orelse : List Stmt} {pos : Pos} (ht : EvT prog w c t false) (hr : Runs prog w c α (orelse :: rest :: bs) R) : Runs prog w c α ((.If t body orelse pos :: rest) :: bs) R := runs_if borrow_refl ht hr

theorem runs_return {e : Expr} {d : D} {pos : Pos} (he : Ev prog w c e d) (h : ∀ K' v s', Stp α.W α.K α.s K' s' → Rep prog w K' v d → R (.ret v) s') : Runs prog w c α ((.Return (some e) pos :: rest) :: bs) R := fun K s E f =>
  wpS_cons (wpAny_Return_some (he K s _ E f.ok fun K1 v s1 n1 r1 => h K1 v s1 (f.next n1).stp r1))
theorem runs_returnN {e : Expr} {d : D} {pos : Pos} (he : EvN prog w c e d) (h : ∀ K' a s', Stp α.W α.K α.s K' s' → α.s.heap.get? a = none → K' a = none → TopAt prog w K' s'.heap a d → R (.ret (.ref a)) s') : Runs prog w c α ((.Return (some e) pos :: rest) :: bs) R := fun K s E f =>
  wpS_cons (wpAny_Return_some (he K s _ E f.ok fun K1 a s1 n1 hf hn t => h K1 a s1 (f.next n1).stp (fresh_anchor f hf).2 hn t))

/-! own objects written -/
theorem runs_append {x : Str} {px ap cp pos : Pos} {e : Expr} {d : D} {a : Addr} {ds : List D} (he : Ev prog w c e d) (hr : Runs prog w { c with O := (x, a, .list (ds ++ [d])) :: c.O } α (rest :: bs) R) (hx : c.O.lookup x = some (a, .list ds) := by rfl) (hz : (ds ++ [d]).length ≤ lim)
    (hbase : attributeBase (.Name x px) "append" c.env (eval (.Name x px) c.env) = eval (.Name x px) c.env := by rfl) (hline : (ap.endLine == cp.line) = true := by rfl) (hse : starEach [e] c.env = (false, eval e c.env) :: starEach [] c.env := by rfl)
    (hfew : ((backTo cp (starEach [e] c.env)).all (fun x => !x.1) && (backToKw cp (keywordEach [] c.env)).all (fun x => x.1.isSome) && decide ([e].length + ([] : List Keyword).length + (if ([] : List Keyword).isEmpty then 0 else 1) < 30)) = true := by rfl)
    (hi : interactive c.env = false := by rfl) (hs : swapsWith (.Call (.Attribute (.Name x px) "append" ap) [e] [] cp) none pos.line c.env = pure false := by rfl) (hd : (x == ("__debug__" : Str)) = false := by decide) :
    Runs prog w c α ((.Expr (.Call (.Attribute (.Name x px) "append" ap) [e] [] cp) pos :: rest) :: bs) R := fun K s E f => wpS_cons (wpAny_Expr_any (by
  obtain ⟨h1, h2, h3⟩ := f.ok.own x a _ hx
  refine wpAny_Call_method (T := "list") (id := "list.append") hbase hfew hline PySem.F.plainAttrs_list PySem.slot_list_append PySem.F.type_list_append (wpAny_Name (load_var f.ok.env h1 ?_) hd)
  have h3' := h3
  cases h3' with
  | @list o vs n _ t1 t2 t3 t4 t5 t6 =>
  refine ⟨⟨o, t1, t2⟩, fun b hb => ⟨o, by cases hb; exact t1, t6.1⟩, ?_⟩
  have ha : wpAny (model prog w) c.A (spliced (backTo cp (starEach [e] c.env))) (fun us s1 => wpAny (model prog w) c.A (call (.builtin "list.append") ([.ref a] ++ us)) (fun _ s' => wpS prog w c.A c.env R E (rest :: bs) s') E s1) E s := by
    refine evL_cons he evL_nil hse cp K s _ E f.ok fun K1 us s1 n1 r1 => ?_
    cases r1 with
    | @cons v _ _ _ r r' =>
    cases r'
    obtain ⟨o', dd, _, sl⟩ := o
    simp only at t2 t3 t6
    obtain ⟨rfl, rfl⟩ := t6
    subst t2 t3
    have f1 := f.next n1
    have hpl : s1.heap.PlainList a vs.toArray := ⟨n, n1.keeps.get t1⟩
    have hlen : vs.toArray.size ≤ sizeLine := by rw [List.size_toArray, t4.length]; exact lim_size t5
    refine wpAny_list_append_plain (hsz := hlen) hpl fun h' hl' hs' => ?_
    obtain ⟨n', hl'⟩ := hl'
    have e1 : vs.toArray.push v = (vs ++ [v]).toArray := by simp
    rw [e1] at hl'
    exact hr K1 _ E (f1.touched s1.toks hx hs' (.list hl' rfl rfl ((t4.mono n1.sub).snoc r) hz))
  rw [hse] at ha ⊢
  exact callWith_builtin rfl (evalArgs_plain ha)) hi hs)
theorem setItem_dict {A : Around} {E : Value → Shared → Prop} {s : Shared} {d : Addr} {kvs : List (Key × Value)} {k : Key} {key v : Value} {Q : Unit → Shared → Prop} (hkey : (keyKind prog w).is k key = true) (hm : s.heap.DictOf (keyKind prog w) d kvs)
    (hQ : ∀ h', h'.DictOf (keyKind prog w) d (stored kvs k v) → Heap.SameBut d s.heap h' → Q () { s with heap := h', toks := s.toks + 1 }) (hz : kvs.length ≤ sizeLine) : wpAny (model prog w) A (setItem (.ref d) key v) Q E s := by
  unfold setItem
  try with_reducible refine wpAny_holding ?_
  first | refine wpAny_bind (wpAny_pure ?_) | skip
  refine wpAny_bind (wpAny_sequenceKey hm.typeIs (by decide) ?_)
  refine wpAny_bind (wpAny_callSpecial?_slot (name := Str.ofString "__setitem__") hm.typeIs slot_dict_setitem
    (wpAny_call_entry slot_dict_setitem hm.typeIs entry_dict_setitem ?_ (args_dict_setitem _ _ _)))
  show wpAny _ _ (Builtin.Dict.notOrdered "__setitem__" ⟨[.ref d, key, v], []⟩ >>= _) _ _ s
  refine wpAny_bind (wpAny_notOrdered_dict hm.typeIs ?_)
  show wpAny _ _ (dictSet d key v >>= _) _ _ s
  exact wpAny_bind (wpAny_dictSet_pairs (hsz := hz) hkey hm fun h' hm' hs' => wpAny_pure ⟨.none, rfl, wpAny_pure (hQ h' hm' hs')⟩)
theorem runs_setD {x : Str} {px sp pos : Pos} {ke e : Expr} {k : Key} {d : D} {a : Addr} {l : List (Key × D)} (he : Ev prog w c e d) (hk : Ev prog w c ke (keyD k)) (hr : Runs prog w { c with O := (x, a, mkD (put l k d)) :: c.O } α (rest :: bs) R) (hx : c.O.lookup x = some (a, mkD l) := by rfl) (hz : (put l k d).length ≤ lim)
    (hs : swapsWith e (some (.Subscript (.Name x px) ke sp)) pos.line c.env = pure false := by rfl) (hd : (x == ("__debug__" : Str)) = false := by decide) :
    Runs prog w c α ((.Assign [.Subscript (.Name x px) ke sp] e pos :: rest) :: bs) R := fun K s E f => wpS_cons (wpAny_Assign_Subscript (he K s _ E f.ok fun K1 v s1 n1 r1 => by
  have f1 := f.next n1
  obtain ⟨h1, h2, h3⟩ := f1.ok.own x a _ hx
  refine wpAny_Name (load_var f1.ok.env h1 ?_) hd
  refine hk K1 s1 _ E f1.ok fun K2 key s2 n2 r2 => ?_
  have f2 := f1.next n2
  obtain ⟨_, _, g3⟩ := f2.ok.own x a _ hx
  generalize hl : mkD l = dd at g3
  cases g3 with
  | tuple => cases hl
  | list => cases hl
  | @dict o kvs _ us _ t1 t2 t3 t4 t5 t6 t7 t8 =>
  injection hl with e1 e2
  subst e1 e2 t5
  have hD : DAt prog w K2 kvs l := ⟨t4, t6⟩
  have hlen : kvs.length ≤ sizeLine := by rw [hD.len]; simp only [List.length_map] at t7; exact lim_size t7
  refine setItem_dict (key_is r2) (Heap.dictOf_iff.mpr ⟨o, t1, t2⟩) (fun h' hm' hs' => ?_) hlen
  exact hr K2 _ E (f2.touched (s2.toks + 1) hx hs' (top_dict hm' (hD.put (r1.mono n2.sub)) t3 hz))) hs)
theorem set_list {A : Around} {E : Value → Shared → Prop} {s : Shared} {l : Addr} {items : Array Value} {k : Int} {t : Tok} {v : Value} {Q : Unit → Shared → Prop} (hl : s.heap.PlainList l items) (h0 : 0 ≤ k) (hfit : k < 2 ^ 63) (hn : k < items.size)
    (hQ : ∀ h', h'.PlainList l (items.setIfInBounds k.toNat v) → Heap.SameBut l s.heap h' → Q () { s with heap := h' }) : wpAny (model prog w) A (setItem (.ref l) (.int k t) v) Q E s := by
  obtain ⟨ne, ho⟩ := hl
  have hT : s.TypeIs (.ref l) "list" := ⟨_, ho, rfl⟩
  unfold setItem
  try with_reducible refine wpAny_holding ?_
  first | refine wpAny_bind (wpAny_pure ?_) | skip
  refine wpAny_bind (wpAny_sequenceKey hT (by decide) ?_)
  refine wpAny_bind (wpAny_callSpecial?_slot (name := Str.ofString "__setitem__") hT slot_list_setitem
    (wpAny_call_entry slot_list_setitem hT entry_list_setitem ?_ (args_list_setitem _ _ _)))
  show wpAny _ _ (Builtin.List.listSubscript? (.int k t) >>= _) _ _ s
  refine wpAny_bind (wpAny_listSubscript_int (fitsIndex_of h0 hfit) ?_)
  clear hfit
  obtain ⟨j, rfl⟩ := Int.eq_ofNat_of_zero_le h0
  have hj : j < items.size := by omega
  have hx' : items[j]? = some items[j] := Array.getElem?_eq_getElem hj
  show wpAny _ _ ((seqItemAt l j >>= fun r => pure (r.map (j, ·))) >>= _) _ _ s
  refine wpAny_bind (wpAny_bind (wpAny_seqItemAt ho rfl (wpAny_pure ?_)))
  rw [hx']
  show wpAny _ _ (setSeqItemAt l j v >>= _) _ _ s
  have hm : Obj.mapSeq (·.setIfInBounds j v) { cls := .type "list", data := .seq items ne } = { cls := .type "list", data := .seq (items.setIfInBounds j v) ne } := by simp [Obj.mapSeq]
  have hfin : (s.heap.update l (Obj.mapSeq (·.setIfInBounds j v))).PlainList l (items.setIfInBounds j v) :=
    ⟨_, by rw [Heap.get?_update_self _ ho (by rw [hm]; rfl), hm]⟩
  refine wpAny_bind (wpAny_setSeqItemAt ho rfl ?_)
  first
    | exact wpAny_bind (wpAny_pure (wpAny_pure ⟨.none, rfl, wpAny_pure (hQ _ hfin (Heap.SameBut.update ..))⟩))
    | exact wpAny_pure ⟨.none, rfl, wpAny_pure (hQ _ hfin (Heap.SameBut.update ..))⟩
end
end Mine
namespace Mine
section
variable {prog : Program} {w : World} {c : Cx} {α : Anc} {R : Flow → Shared → Prop} {bs : List (List Stmt)} {rest : List Stmt}
theorem all_set {K : KM} {v : Value} {d : D} (r : Rep prog w K v d) : ∀ {vs : List Value} {ds : List D}, All prog w K vs ds → ∀ i : Nat, All prog w K (vs.set i v) (ds.set i d)
  | _, _, .nil, i => .nil
  | _, _, .cons h t, 0 => .cons r t
  | _, _, .cons h t, i + 1 => .cons h (all_set r t i)
theorem runs_setL {x : Str} {px sp pos : Pos} {ke e : Expr} {k : Int} {d : D} {a : Addr} {ds : List D} (he : Ev prog w c e d) (hk : Ev prog w c ke (.int k)) (h0 : 0 ≤ k) (hn : k < ds.length) (hr : Runs prog w { c with O := (x, a, .list (ds.set k.toNat d)) :: c.O } α (rest :: bs) R) (hx : c.O.lookup x = some (a, .list ds) := by rfl)
    (hs : swapsWith e (some (.Subscript (.Name x px) ke sp)) pos.line c.env = pure false := by rfl) (hd : (x == ("__debug__" : Str)) = false := by decide) :
    Runs prog w c α ((.Assign [.Subscript (.Name x px) ke sp] e pos :: rest) :: bs) R := fun K s E f => wpS_cons (wpAny_Assign_Subscript (he K s _ E f.ok fun K1 v s1 n1 r1 => by
  have f1 := f.next n1
  obtain ⟨h1, h2, h3⟩ := f1.ok.own x a _ hx
  refine wpAny_Name (load_var f1.ok.env h1 ?_) hd
  refine hk K1 s1 _ E f1.ok fun K2 key s2 n2 r2 => ?_
  have f2 := f1.next n2
  obtain ⟨_, _, g3⟩ := f2.ok.own x a _ hx
  cases r2 with
  | int _ t =>
  cases g3 with
  | @list o vs n _ t1 t2 t3 t4 t5 t6 =>
  obtain ⟨o', dd, _, sl⟩ := o
  simp only at t2 t3 t6
  obtain ⟨rfl, rfl⟩ := t6
  subst t2 t3
  have hlen := t4.length
  refine set_list (items := vs.toArray) ⟨n, t1⟩ h0 (by have : lim = 4096 := rfl; omega) (by simp; omega) fun h' hl' hs' => ?_
  obtain ⟨n', hl'⟩ := hl'
  have e1 : vs.toArray.setIfInBounds k.toNat v = (vs.set k.toNat v).toArray := by simp
  rw [e1] at hl'
  exact hr K2 _ E (f2.touched s2.toks hx hs' (.list hl' rfl rfl (all_set (r1.mono n2.sub) t4 _) (by rw [List.length_set]; exact t5)))) hs)

theorem TopAt.grow {K K' : KM} {h : Heap} {a : Addr} {d : D} (t : TopAt prog w K h a d) (hs : Sub K K') : TopAt prog w K' h a d := by
  cases t with
  | tuple h1 h2 h3 h4 h5 => exact .tuple h1 h2 h3 (h4.mono hs) h5
  | list h1 h2 h3 h4 h5 h6 => exact .list h1 h2 h3 (h4.mono hs) h5 h6
  | dict h1 h2 h3 h4 h5 h6 h7 h8 => exact .dict h1 h2 h3 h4 h5 (h6.mono hs) h7 h8
/-! ## for -/
/-- a step that writes at W, apart from the frame -/
theorem Fr.far {K K' : KM} {s s' : Shared} {W : List Addr} (f : Fr prog w c α K s) (t : Stp W K s K' s') (hW : ∀ b ∈ W, (b ∉ α.W ∧ α.s.heap.get? b = none) ∧ (b ≠ c.env.locals ∧ ∀ n a, c.env.cells.lookup n = some a → b ≠ a) ∧ (∀ y p, c.O.lookup y = some p → p.1 ≠ b) ∧ ∀ o, c.B.get? b ≠ some o) : Fr prog w c α K' s' := by
  have get : ∀ b o, b ∉ W → s.heap.get? b = some o → s'.heap.get? b = some o := fun b o hb e => t.kept b o hb e
  have out : ∀ b, K b = none → (∃ o, s.heap.get? b = some o) → K' b = none := fun b h ⟨o, e⟩ => by
    cases q : K' b with
    | none => rfl
    | some o' => have := t.fresh b o' q h; rw [e] at this; cases this
  have locW : c.env.locals ∉ W := fun h => (hW _ h).2.1.1 rfl
  have celW : ∀ n a, c.env.cells.lookup n = some a → a ∉ W := fun n a h hm => (hW _ hm).2.1.2 n a h rfl
  have ownW : ∀ y p, c.O.lookup y = some p → p.1 ∉ W := fun y p h hm => (hW _ hm).2.2.1 y p h rfl
  have basW : ∀ b o, c.B.get? b = some o → b ∉ W := fun b o h hm => (hW _ hm).2.2.2 o h
  have var : ∀ y u, VarAt c.env s.heap y u → VarAt c.env s'.heap y u := fun y u hv => by
    cases hv with
    | loc m0 h1 h2 h3 => exact .loc m0 h1 (h2.at' fun o e => get _ o locW e) h3
    | cell b h1 h2 h3 =>
      obtain ⟨o, ho, hd⟩ := h3
      exact .cell b h1 h2 ⟨o, get b o (celW y b h2) ho, hd⟩
    | free b h1 h2 h3 h4 =>
      obtain ⟨o, ho, hd⟩ := h3
      exact .free b h1 h2 ⟨o, get b o (celW y b h2) ho, hd⟩ h4
    | glob m0 h1 h2 h3 =>
      refine .glob m0 h1 (h2.at' fun o e => get _ o ?_ e) h3
      obtain ⟨mg, mb, ⟨o', _, _, e', _⟩, _⟩ := f.ok.mod.glob
      exact basW _ o' e'
  refine ⟨⟨f.ok.env, f.ok.mod, f.ok.hand, f.ok.kb.trans t.sub, fun b o e => get b o (basW b o e) (f.ok.base b o e), t.inH, fun y d h => ?_, fun y b d h => ?_⟩, f.stp.over t (fun b hb => .inr (hW b hb).1.2) f.alive, fun b hb => ?_, ?_, ⟨out _ f.loc.1 (ns_alive f), f.loc.2⟩, fun n b h => ?_, f.inj, f.own, f.apart, f.base⟩
  · obtain ⟨u, h1, h2⟩ := f.ok.vars y d h
    exact ⟨u, var y u h1, h2.mono t.sub⟩
  · obtain ⟨h1, h2, h3⟩ := f.ok.own y b d h
    exact ⟨var y _ h1, out b h2 (top_alive h3), (h3.at_ fun o e => get b o (ownW y _ h) e).grow t.sub⟩
  · obtain ⟨o, e⟩ := f.alive b hb
    exact ⟨o, get b o (fun h => (hW b h).1.1 hb) e⟩
  · obtain ⟨m, hn⟩ := f.ns
    exact ⟨m, hn.at' fun o e => get _ o locW e⟩
  · obtain ⟨⟨v, o, e1, e2⟩, h2, h3⟩ := f.cel n b h
    exact ⟨⟨v, o, get b o (celW n b h) e1, e2⟩, out b h2 ⟨o, e1⟩, h3⟩
/-- a target has been assigned -/
theorem Fr.put {K : KM} {s s' : Shared} {β : List (Str × D)} {m m' : Str → Option Value} (f : Fr prog w c α K s) (t : Stp [c.env.locals] K s K s') (hn : s.heap.Ns c.env.locals m) (hn' : s'.heap.Ns c.env.locals m') (hv : ∀ x d, β.lookup x = some d → ∃ v, m' x = some v ∧ Rep prog w K v d) (ho : ∀ x, β.lookup x = none → m' x = m x)
    (hk : ∀ x d, β.lookup x = some d → c.env.kindOf x = some .local ∧ c.O.lookup x = none) : Fr prog w { c with ρ := β ++ c.ρ } α K s' := by
  have get : ∀ b o, b ≠ c.env.locals → s.heap.get? b = some o → s'.heap.get? b = some o := fun b o hb e => t.kept b o (fun h => by
    rcases List.mem_cons.mp h with h | h
    · exact hb h
    · cases h) e
  have var : ∀ y u, β.lookup y = none → VarAt c.env s.heap y u → VarAt c.env s'.heap y u := fun y u hy hv => by
    cases hv with
    | loc m0 h1 h2 h3 => exact .loc m' h1 hn' (by rw [ho y hy, ns_same hn h2]; exact h3)
    | cell b h1 h2 h3 =>
      obtain ⟨o, ho, hd⟩ := h3
      exact .cell b h1 h2 ⟨o, get b o (f.cel y b h2).2.2.2 ho, hd⟩
    | free b h1 h2 h3 h4 =>
      obtain ⟨o, ho, hd⟩ := h3
      exact .free b h1 h2 ⟨o, get b o (f.cel y b h2).2.2.2 ho, hd⟩ h4
    | glob m0 h1 h2 h3 =>
      refine .glob m0 h1 (h2.at' fun o e => get _ o ?_ e) h3
      obtain ⟨mg, mb, ⟨o', _, _, e', _⟩, _⟩ := f.ok.mod.glob
      exact (f.base _ o' e').1
  refine ⟨⟨f.ok.env, f.ok.mod, f.ok.hand, f.ok.kb, fun b o e => get b o (f.base b o e).1 (f.ok.base b o e), t.inH, fun y d h => ?_, fun y b d h => ?_⟩, f.stp.over t (fun b hb => by
      rcases List.mem_cons.mp hb with rfl | hb
      · exact f.loc.2
      · cases hb) f.alive, fun b hb => ?_, ⟨m', hn'⟩, f.loc, fun n b h => ?_, f.inj, f.own, f.apart, f.base⟩
  · have h : (β ++ c.ρ).lookup y = some d := h
    rw [List.lookup_append] at h
    cases hb : β.lookup y with
    | some d' =>
      rw [hb] at h; cases h
      obtain ⟨v, h1, h2⟩ := hv y d hb
      exact ⟨v, .loc m' (hk y d hb).1 hn' h1, h2⟩
    | none =>
      rw [hb] at h
      obtain ⟨u, h1, h2⟩ := f.ok.vars y d h
      exact ⟨u, var y u hb h1, h2⟩
  · obtain ⟨h1, h2, h3⟩ := f.ok.own y b d h
    refine ⟨var y _ ?_ h1, h2, h3.at_ fun o e => get b o (f.own y _ h).2.1 e⟩
    cases hb : β.lookup y with
    | none => rfl
    | some d' => have := (hk y d' hb).2; rw [this] at h; cases h
  · obtain ⟨o, e⟩ := f.alive b hb
    by_cases hbl : b = c.env.locals
    · subst hbl
      obtain ⟨o', _, _, e', _⟩ := hn'
      exact ⟨o', e'⟩
    · exact ⟨o, get b o hbl e⟩
  · obtain ⟨⟨v, o, e1, e2⟩, h2, h3, h4⟩ := f.cel n b h
    exact ⟨⟨v, o, get b o h4 e1, e2⟩, h2, h3, h4⟩

def wrs (c : Cx) : List Addr := c.env.locals :: (c.env.cells.filterMap fun p => c.env.cells.lookup p.1) ++ (c.O.filterMap fun p => (c.O.lookup p.1).map (·.1))
theorem wrs_mem {b : Addr} (h : b ∈ wrs c) : b = c.env.locals ∨ (∃ n, c.env.cells.lookup n = some b) ∨ ∃ x p, c.O.lookup x = some p ∧ p.1 = b := by
  unfold wrs at h
  rw [List.cons_append, List.mem_cons, List.mem_append] at h
  rcases h with h | h | h
  · exact .inl h
  · obtain ⟨p, _, h⟩ := List.mem_filterMap.mp h
    exact .inr (.inl ⟨_, h⟩)
  · obtain ⟨p, _, h⟩ := List.mem_filterMap.mp h
    obtain ⟨q, h1, h2⟩ := Option.map_eq_some_iff.mp h
    exact .inr (.inr ⟨_, q, h1, h2⟩)
theorem mem_lookup {β : Type} : ∀ {l : List (Str × β)} {x : Str} {v : β}, l.lookup x = some v → (x, v) ∈ l
  | (y, u) :: r, x, v, h => by
    rw [lookup_two] at h
    by_cases hx : x = y
    · subst hx; rw [if_pos rfl] at h; cases h; exact List.mem_cons_self ..
    · rw [if_neg hx] at h; exact List.mem_cons_of_mem _ (mem_lookup h)
theorem wrs_loc : c.env.locals ∈ wrs c := by unfold wrs; exact List.mem_cons_self ..
theorem wrs_cel {n : Str} {a : Addr} (h : c.env.cells.lookup n = some a) : a ∈ wrs c := by
  unfold wrs
  rw [List.cons_append, List.mem_cons, List.mem_append]
  exact .inr (.inl (List.mem_filterMap.mpr ⟨_, mem_lookup h, h⟩))
theorem wrs_own {x : Str} {p : Addr × D} (h : c.O.lookup x = some p) : p.1 ∈ wrs c := by
  unfold wrs
  rw [List.cons_append, List.mem_cons, List.mem_append]
  exact .inr (.inr (List.mem_filterMap.mpr ⟨_, mem_lookup h, by rw [h]; rfl⟩))
/-- a new anchor: here -/
theorem Fr.here {K : KM} {s : Shared} (f : Fr prog w c α K s) : Fr prog w c ⟨wrs c, K, s⟩ K s where
  ok := f.ok
  stp := .refl f.ok.inH fun b hb => by
    rcases wrs_mem hb with rfl | ⟨n, h⟩ | ⟨x, p, h, rfl⟩
    · exact f.loc.1
    · exact (f.cel n b h).2.1
    · exact (f.ok.own x p.1 p.2 h).2.1
  alive := fun b hb => by
    rcases wrs_mem hb with rfl | ⟨n, h⟩ | ⟨x, p, h, rfl⟩
    · exact ns_alive f
    · obtain ⟨⟨v, o, e, _⟩, _⟩ := f.cel n b h
      exact ⟨o, e⟩
    · exact top_alive (f.ok.own x p.1 p.2 h).2.2
  ns := f.ns
  loc := ⟨f.loc.1, .inl wrs_loc⟩
  cel := fun n a h => let ⟨h1, h2, _, h4⟩ := f.cel n a h; ⟨h1, h2, .inl (wrs_cel h), h4⟩
  inj := f.inj
  own := fun x p h => ⟨.inl (wrs_own h), (f.own x p h).2⟩
  apart := f.apart
  base := f.base
/-- back to the old anchor -/
theorem Fr.back {ρ' : List (Str × D)} {O' : List (Str × Addr × D)} {K K' : KM} {s s' : Shared} (f : Fr prog w c α K s) (g : Fr prog w { c with ρ := ρ', O := O' } ⟨wrs c, K, s⟩ K' s') (hO : ∀ x p, O'.lookup x = some p → ∃ y q, c.O.lookup y = some q ∧ q.1 = p.1) : Fr prog w { c with ρ := ρ', O := O' } α K' s' where
  ok := g.ok
  stp := f.stp.over g.stp (fun b hb => by
    rcases wrs_mem hb with rfl | ⟨n, h⟩ | ⟨x, p, h, rfl⟩
    · exact f.loc.2
    · exact (f.cel n b h).2.2.1
    · exact (f.own x p h).1) f.alive
  alive := fun b hb => by
    by_cases hw : b ∈ wrs c
    · exact g.alive b hw
    · exact g.stp.alive hw (f.alive b hb)
  ns := g.ns
  loc := ⟨g.loc.1, f.loc.2⟩
  cel := fun n a h => ⟨(g.cel n a h).1, (g.cel n a h).2.1, (f.cel n a h).2.2⟩
  inj := g.inj
  own := fun x p h => ⟨by
    obtain ⟨y, q, h1, h2⟩ := hO x p h
    rw [← h2]; exact (f.own y q h1).1, (g.own x p h).2⟩
  apart := g.apart
  base := g.base

theorem forTurn_eq (target : Expr) (it : Value) (body orelse : List Stmt) (env : Env) : forTurn target it body orelse env = (standAt target.pos >>= fun _ => (pyNext it).onRaise (fun _ => standAt { target.pos with line := 0 }) >>= fun r => match r with
  | none => again (.block orelse env)
  | some v => letOwnedTupleGo target it v >>= fun _ => assign target env v >>= fun _ => execs body env >>= fun f => match f with
    | .next | .cont => again (.forLoop target it body orelse env)
    | .brk => pure (.done .next)
    | .ret v => pure (.done (.ret v))) := by rfl

theorem It.nextR {β : Type} {A : Around} {tgt : Expr} {I : Addr} {W : List Addr} {xs : List D} {St : Nat → KM → Heap → Prop} (it : It prog w A tgt I W xs St) {i : Nat} {d : D} {K : KM} {s : Shared} {k : Option Value → Sem β} {k' : Value → Sem β} {h : Value → Sem Unit} {Q : β → Shared → Prop} {E : Value → Shared → Prop}
    (hd : xs[i]? = some d) (st : St i K s.heap) (hK : InH K s.heap) (hW : ∀ b ∈ W, K b = none) (hk : ∀ v, k (some v) = (letOwnedTupleGo tgt (.ref I) v >>= fun _ => k' v)) (hh : ∀ e s', E e s' → wpAny (model prog w) A (h e) (fun _ s'' => E e s'') E s')
    (hq : ∀ K' v s', Stp W K s K' s' → St (i + 1) K' s'.heap → Rep prog w K' v d → wpAny (model prog w) A (k' v) Q E s') : wpAny (model prog w) A ((pyNext (.ref I)).onRaise h >>= k) Q E s :=
  wpAny_bind (wpAny_onRaise (wpAny_mono (it.item i d K s (fun v s2 => wpAny (model prog w) A (k' v) Q E s2) E hd st hK hW hq) (fun r s1 h1 => by
    obtain ⟨v, rfl, h1⟩ := h1
    rw [hk v]
    exact wpAny_bind h1) hh))
theorem runs_for {tgt iter : Expr} {body : List Stmt} {pos : Pos} {xs : List D} (ρI : Nat → List (Str × D)) (OI : Nat → List (Str × Addr × D)) {β : Nat → List (Str × D)}
    (hit : EvIt prog w c tgt iter xs) (hput : ∀ i d, xs[i]? = some d → Puts prog w c.A c.env tgt d (β i))
    (hk : ∀ i x d, (β i).lookup x = some d → c.env.kindOf x = some .local ∧ (OI i).lookup x = none)
    (h0 : ∀ x d, (ρI 0).lookup x = some d → c.ρ.lookup x = some d) (h0' : ∀ x p, (OI 0).lookup x = some p → c.O.lookup x = some p)
    (hadr : ∀ i x p, (OI (i + 1)).lookup x = some p → ∃ q, (OI i).lookup x = some q ∧ q.1 = p.1)
    (hbody : ∀ i d α', xs[i]? = some d → Runs prog w { c with ρ := β i ++ ρI i, O := OI i } α' [body] (fun f s' => f = .next ∧ ∃ K', Fr prog w { c with ρ := ρI (i + 1), O := OI (i + 1) } α' K' s'))
    {N : Nat} (hN : xs.length = N) (hr : Runs prog w { c with ρ := ρI N, O := OI N } α (rest :: bs) R)
    (hs : ∀ x, foldedSetIterable iter c.env x = pure x := by intro _; rfl) : Runs prog w c α ((.For tgt iter body [] pos :: rest) :: bs) R := fun K s E f => wpS_cons (by
  subst hN
  refine wpAny_For (hit K s _ E f.ok fun K0 s0 I W St n0 it st0 hW hlim => ?_) hs
  have hWd : ∀ b ∈ W, (b ∉ α.W ∧ α.s.heap.get? b = none) ∧ (b ≠ c.env.locals ∧ ∀ n a, c.env.cells.lookup n = some a → b ≠ a) ∧ (∀ y p, c.O.lookup y = some p → p.1 ≠ b) ∧ ∀ o, c.B.get? b ≠ some o := fun b hb => by
    have h := (hW b hb).2
    obtain ⟨h1, h2, h3⟩ := fresh_apart f h
    exact ⟨fresh_anchor f h, h1, h2, h3⟩
  have hadr' : ∀ i x p, (OI i).lookup x = some p → ∃ q, c.O.lookup x = some q ∧ q.1 = p.1 := by
    intro i
    induction i with
    | zero => intro x p h; exact ⟨p, h0' x p h, rfl⟩
    | succ i ih =>
      intro x p h
      obtain ⟨q, h1, h2⟩ := hadr i x p h
      obtain ⟨q', h3, h4⟩ := ih x q h1
      exact ⟨q', h3, h4.trans h2⟩
  have hWi : ∀ i, ∀ b ∈ W, ∀ y p, (OI i).lookup y = some p → p.1 ≠ b := fun i b hb y p h => by
    obtain ⟨q, h1, h2⟩ := hadr' i y p h
    rw [← h2]; exact (hWd b hb).2.2.1 y q h1
  refine codeAny_loop' rfl (fun n s' => ∃ i K', n = xs.length + 1 - i ∧ i ≤ xs.length ∧ Fr prog w { c with ρ := ρI i, O := OI i } α K' s' ∧ St i K' s'.heap ∧ ∀ b ∈ W, K' b = none) ?_ (xs.length + 1) ⟨0, K0, rfl, Nat.zero_le _, (f.next n0).less h0 h0', st0, fun b hb => (hW b hb).1⟩
  rintro n s' ⟨i, K', rfl, hi, g, st, hKW⟩
  show wpAny _ c.A ((forTurn tgt (.ref I) body [] c.env).onRaise (fun x => do noteFrame x c.env; theTreesLotGoes x)) _ _ s'
  refine wpAny_noted ?_
  rw [forTurn_eq]
  refine wpAny_bind (wpAny_standAt ?_)
  rcases Nat.lt_or_ge i xs.length with hlt | hge
  · obtain ⟨d, hd⟩ : ∃ d, xs[i]? = some d := ⟨_, List.getElem?_eq_getElem hlt⟩
    refine it.nextR hd st g.ok.inH hKW (fun _ => rfl) (fun e s' hx => wpAny_standAt hx) fun K1 v s1 stp1 st1 r1 => ?_
    have g1 : Fr prog w { c with ρ := ρI i, O := OI i } α K1 s1 := g.far stp1 fun b hb => ⟨(hWd b hb).1, (hWd b hb).2.1, hWi i b hb, (hWd b hb).2.2.2⟩
    obtain ⟨m, hn⟩ := g1.ns
    refine wpAny_bind (hput i d hd K1 s1 v m _ _ hn g1.loc.1 g1.ok.inH r1 fun s2 m2 stp2 hn2 hv2 ho2 => ?_)
    have g2 : Fr prog w { c with ρ := β i ++ ρI i, O := OI i } α K1 s2 := g1.put stp2 hn hn2 hv2 ho2 (hk i)
    have hnl : ∀ b ∈ W, b ∉ [c.env.locals] := fun b hb hm => by
      rcases List.mem_cons.mp hm with h | h
      · exact (hWd b hb).2.1.1 h
      · cases h
    have st2 : St (i + 1) K1 s2.heap := it.frame _ _ _ _ _ st1 (.refl _) stp2.inH fun b hb o e => stp2.kept b o (hnl b hb) e
    have hK1W : ∀ b ∈ W, K1 b = none := stp1.out
    refine wpAny_bind (wpAny_mono (hbody i d _ hd K1 s2 _ g2.here) (fun fl s3 h3 => ?_) fun _ _ e => e)
    have h3' : fl = .next ∧ ∃ K', Fr prog w { c with ρ := ρI (i + 1), O := OI (i + 1) } ⟨wrs { c with ρ := β i ++ ρI i, O := OI i }, K1, s2⟩ K' s3 := by
      cases fl <;> exact h3
    obtain ⟨rfl, K2, g3⟩ := h3'
    have hww : ∀ b ∈ W, b ∉ wrs { c with ρ := β i ++ ρI i, O := OI i } := fun b hb hm => by
      rcases wrs_mem hm with h | ⟨n, h⟩ | ⟨x, p, h, h'⟩
      · exact (hWd b hb).2.1.1 h
      · exact (hWd b hb).2.1.2 n b h rfl
      · exact hWi i b hb x p h h'
    refine wpAny_pure (.inl ⟨rfl, xs.length + 1 - (i + 1), by omega, i + 1, K2, rfl, hlt, g2.back g3 (fun x p h => ?_), ?_, fun b hb => ?_⟩)
    · obtain ⟨q, h1, h2⟩ := hadr i x p h
      exact ⟨x, q, h1, h2⟩
    · exact it.frame _ _ _ _ _ st2 g3.stp.sub g3.stp.inH fun b hb o e => g3.stp.kept b o (hww b hb) e
    · cases q : K2 b with
      | none => rfl
      | some o' =>
        obtain ⟨o, e⟩ := it.live _ _ _ st2 b hb
        have := g3.stp.fresh b o' q (hK1W b hb)
        have e' : s2.heap.get? b = none := this
        rw [e] at e'; cases e'
  · have hin : i = xs.length := Nat.le_antisymm hi hge
    subst hin
    refine wpAny_bind (wpAny_onRaise (it.done K' s' _ _ st g.ok.inH hKW fun s1 stp1 => wpAny_pure (.inr ⟨rfl, codeAny_block (wpAny_execs_nil ?_)⟩)))
    have g1 : Fr prog w { c with ρ := ρI xs.length, O := OI xs.length } α K' s1 := g.far stp1 fun b hb => ⟨(hWd b hb).1, (hWd b hb).2.1, hWi _ b hb, (hWd b hb).2.2.2⟩
    exact hr K' s1 E g1)
end
end Mine
namespace Mine

/-! ## entering a function -/
def fenv (i : Nat) (L a : Addr) (q : Str) (code : Value) : Env := newEnv (scopeAt i) L mainGlobals (cellsFrom (L + 1) (scopeAt i).names []) q (some a) code none builtinsNs
def fcx (A : Around) (i : Nat) (L a : Addr) (q : Str) (code : Value) (ρ : List (Str × D)) (B : Heap) (KB : KM) : Cx := { A := A.deeper (fenv i L a q code), env := fenv i L a q code, ρ := ρ, O := [], B := B, KB := KB }

section
variable {prog : Program} {w : World} {α : Anc}
theorem Fr.around {c : Cx} {A' : Around} {K : KM} {s : Shared} (f : Fr prog w c α K s) (h : A'.handled = none) : Fr prog w { c with A := A' } α K s :=
  ⟨⟨f.ok.env, f.ok.mod, h, f.ok.kb, f.ok.base, f.ok.inH, f.ok.vars, f.ok.own⟩, f.stp, f.alive, f.ns, f.loc, f.cel, f.inj, f.own, f.apart, f.base⟩
theorem params_in {c : Cx} {E : Value → Shared → Prop} (f : Str × Value → PUnit → Sem (ForInStep PUnit)) (hf : ∀ n v u, f (n, v) u = (do storeName c.env n v; pure (.yield ⟨⟩))) :
    ∀ (bs : List (Str × Value)) (ρ ρ₀ : List (Str × D)) (K : KM) (s : Shared) (Q : PUnit → Shared → Prop), Fr prog w { c with ρ := ρ₀, O := [] } α K s → bs.map (·.1) = ρ.map (·.1) → All prog w K (bs.map (·.2)) (ρ.map (·.2)) → (ρ.all fun p => slot c.env p.1) = true →
      (∀ s', Fr prog w { c with ρ := ρ.reverse ++ ρ₀, O := [] } α K s' → Q ⟨⟩ s') → wpAny (model prog w) c.A (forIn bs ⟨⟩ f) Q E s
  | [], [], ρ₀, K, s, Q, g, _, _, _, h => by rw [List.forIn_nil]; exact wpAny_pure (h s g)
  | [], _ :: _, _, _, _, _, _, h, _, _, _ => by cases h
  | _ :: _, [], _, _, _, _, _, h, _, _, _ => by cases h
  | (n, v) :: bs, (n', d) :: ρ, ρ₀, K, s, Q, g, hn, hv, hs, h => by
    simp only [List.map_cons, List.cons.injEq] at hn
    obtain ⟨rfl, hn⟩ := hn
    simp only [List.map_cons] at hv
    cases hv with
    | cons r rs =>
    simp only [List.all_cons, Bool.and_eq_true] at hs
    rw [List.forIn_cons, hf]
    refine wpAny_bind (wpAny_bind (store_core (c := { c with ρ := ρ₀, O := [] }) g hs.1 fun s2 wr => wpAny_pure ?_))
    refine params_in f hf bs ρ ((n, d) :: ρ₀) K s2 Q (g.stored wr r rfl) hn rs hs.2 fun s' g' => h s' ?_
    have e : (((n, d) :: ρ).reverse ++ ρ₀) = ρ.reverse ++ (n, d) :: ρ₀ := by simp
    rw [e]; exact g'

theorem enter {A : Around} {i : Nat} {B : Heap} {KB K : KM} {a : Addr} {o : Obj} {fd : FuncData} {s : Shared} {args : Args} {R : Result → Shared → Prop} {ρ : List (Str × D)} (hroom : A.depth < recursionLimit) (hh : A.handled = none) (hB : BaseOk prog w B KB) (hKB : Sub KB K) (h1 : B.get? a = some o) (h2 : o.data = .func fd) (h3 : FnIs B fd i)
    (h4 : ∀ b o, B.get? b = some o → s.heap.get? b = some o) (hK : InH K s.heap)
    (hbind : ∀ (Q : List (Str × Value) → Shared → Prop) (E : Value → Shared → Prop), (∀ K1 bs s1, Next K s K1 s1 → bs.map (·.1) = ρ.map (·.1) → All prog w K1 (bs.map (·.2)) (ρ.map (·.2)) → Q bs s1) → wpAny (model prog w) A.in1 (bindArgs fd args) Q E s)
    (hkind : (scopeAt i).kind = .function) (hco : (scopeAt i).isCoroutine = false) (hgen : (scopeAt i).isGenerator = false) (hslot : ∀ L q code, (ρ.all fun p => slot (fenv i L a q code) p.1) = true)
    (hrun : ∀ L q code, Runs prog w (fcx A i L a q code ρ.reverse B KB) ⟨[], K, s⟩ [bodyAt i] (fun f s' => R (.ok (.ret (match f with | .ret v => v | _ => .none))) s')) :
    codeAny (model prog w) A (.call (.ref a) args) R s := by
  refine codeAny_call_function hroom (h4 a o h1) h2 (by rw [h3.scope]; exact hco) (by rw [h3.scope]; exact hgen) h3.body (h3.code.keeps h4) ?_
  refine hbind _ _ fun K1 bs s1 n1 hb1 hb2 => ?_
  rw [h3.scope, h3.glob, h3.closure, h3.built]
  simp only [newFunctionEnv, Option.isSome_none, Bool.false_eq_true, if_false]
  refine wpAny_bind (wpAny_alloc ?_)
  refine wpAny_bind (wpAny_layCells _ (fun name kind cells => by cases hkc : kind == NameKind.cell <;> simp [hkc]) _ _ _ _ ?_)
  have ok := cellsFrom_ok (scopeAt i).names (s1.heap.push { cls := .type "frame", data := .dict #[] }) (s1.heap.objs.size + 1) [] ⟨fun _ _ hm => (nomatch hm), List.Pairwise.nil⟩ (by rw [Heap.size_push]; exact Nat.le_refl _)
  rw [Heap.size_push] at ok
  rw [show ({ s1 with heap := s1.heap.push { cls := .type "frame", data := .dict #[] } } : Shared).heap.objs.size = s1.heap.objs.size + 1 from Heap.size_push ..]
  have keep : ∀ b o, s1.heap.get? b = some o → (pushCells (s1.heap.push { cls := .type "frame", data := .dict #[] }) (scopeAt i).names).get? b = some o := fun b o e => pushCells_keeps _ _ b o (Heap.get?_push_of_some _ e)
  have n2 : Next K1 s1 K1 { s1 with heap := pushCells (s1.heap.push { cls := .type "frame", data := .dict #[] }) (scopeAt i).names } := .keep n1.inH (.of s1.toks keep)
  have nn := n1.trans n2
  have base : ∀ b o, B.get? b = some o → s1.heap.get? b = some o := fun b o e => n1.keeps.get (h4 b o e)
  have hL : s.heap.get? s1.heap.objs.size = none := n1.keeps.none (get_size _)
  have hc : ∀ n b, (cellsFrom (s1.heap.objs.size + 1) (scopeAt i).names []).lookup n = some b → s1.heap.objs.size + 1 ≤ b := fun n b h => (ok.empty n b (mem_of_lookup h)).2
  have g : Fr prog w { (fcx A i s1.heap.objs.size a (fd.qualname ++ ".<locals>.") fd.code [] B KB) with ρ := [], O := [], A := A.in1 } ⟨[], K, s⟩ K1 { s1 with heap := pushCells (s1.heap.push { cls := .type "frame", data := .dict #[] }) (scopeAt i).names } := by
    refine ⟨⟨⟨hkind, rfl, rfl⟩, hB, hh, hKB.trans n1.sub, fun b o e => keep b o (base b o e), n2.inH, fun x d h => (nomatch h), fun x a d h => (nomatch h)⟩, ?_, fun b hb => (nomatch hb), ?_, ⟨none_of_fresh n1.inH (get_size _), .inr hL⟩, fun n b h => ?_, fun n n' b h h' => ?_, fun x p h => (nomatch h), fun x y p q h => (nomatch h), fun b o h => ⟨?_, fun n b' h' => ?_, fun x p h => (nomatch h)⟩⟩
    · exact stp_start nn fun b hb => nomatch hb
    · exact ⟨_, (Heap.Ns.new s1.heap (.type "frame")).keeps (pushCells_keeps _ _)⟩
    · have hb := hc n b h
      have hf : s1.heap.get? b = none := none_ge (Nat.le_of_succ_le hb)
      exact ⟨⟨_, (ok.empty n b (mem_of_lookup h)).1⟩, none_of_fresh n1.inH hf, .inr (n1.keeps.none hf), Nat.ne_of_gt hb⟩
    · exact name_of_addr ok.apart (mem_of_lookup h) (mem_of_lookup h')
    · exact Nat.ne_of_lt (Heap.lt_size (base b o h))
    · exact Nat.ne_of_lt (Nat.lt_of_lt_of_le (Nat.lt_succ_of_lt (Heap.lt_size (base b o h))) (hc n b' h'))
  refine wpAny_bind (params_in (c := { (fcx A i s1.heap.objs.size a (fd.qualname ++ ".<locals>.") fd.code [] B KB) with A := A.in1 }) _ (fun _ _ _ => rfl) bs ρ [] K1 _ _ g hb1 hb2 (hslot _ _ _) fun s' g' => wpAny_pure ⟨?_, ?_⟩)
  · exact hB.nolimit.keeps g'.ok.base
  · refine codeAny_func ?_
    have g2 : Fr prog w (fcx A i s1.heap.objs.size a (fd.qualname ++ ".<locals>.") fd.code ρ.reverse B KB) ⟨[], K, s⟩ K1 s' := by
      have e : ρ.reverse ++ [] = ρ.reverse := List.append_nil _
      rw [e] at g'
      exact g'.around hh
    refine wpAny_mono (hrun s1.heap.objs.size (fd.qualname ++ ".<locals>.") fd.code K1 s' _ g2) (fun f s'' h => ?_) fun _ _ x => x
    cases f <;> exact h
end
end Mine
namespace Mine

/-! ## dict displays -/
section
variable {prog : Program} {w : World} {c : Cx}
theorem evn_dict0 {pos : Pos} : EvN prog w c (.Dict [] [] pos) (mkD []) := fun K s Q E ok q => by
  refine wpAny_Dict_empty (q K s.heap.objs.size _ (.keep ok.inH (kp_push s _)) (get_size _) (none_of_fresh ok.inH (get_size _)) ?_)
  exact top_dict (Heap.DictOf.new s.heap) .nil (ok.notMods (Nat.le_refl _)) (Nat.zero_le _)
end

/-! ## helpers for contexts -/
inductive Less {β : Type} (l : List (Str × β)) : List (Str × β) → Prop
  | nil : Less l []
  | cons {x : Str} {d : β} {r : List (Str × β)} : l.lookup x = some d → Less l r → Less l ((x, d) :: r)
theorem Less.get {β : Type} {l : List (Str × β)} : ∀ {r : List (Str × β)}, Less l r → ∀ x d, r.lookup x = some d → l.lookup x = some d
  | _, .nil, x, d, h => by cases h
  | _, .cons (x := y) h1 r, x, d, h => by
    rw [lookup_two] at h
    by_cases hy : x = y
    · subst hy; rw [if_pos rfl] at h; cases h; exact h1
    · rw [if_neg hy] at h; exact r.get x d h
theorem Less.own {l : List (Str × Addr × D)} {x : Str} {a : Addr} {d d' : D} {r : List (Str × Addr × D)} (h : l.lookup x = some (a, d')) (e : d = d') (hr : Less l r) : Less l ((x, a, d) :: r) := .cons (by rw [e]; exact h) hr
/-- the same without one name -/
inductive But (x : Str) (l : List (Str × Addr × D)) : List (Str × Addr × D) → Prop
  | nil : But x l []
  | cons {y : Str} {d : Addr × D} {r : List (Str × Addr × D)} : (y == x) = false → l.lookup y = some d → But x l r → But x l ((y, d) :: r)
theorem But.get {x : Str} {l : List (Str × Addr × D)} : ∀ {r : List (Str × Addr × D)}, But x l r → ∀ y p, r.lookup y = some p → y ≠ x ∧ l.lookup y = some p
  | _, .nil, y, p, h => by cases h
  | _, .cons (y := z) h1 h2 r, y, p, h => by
    rw [lookup_two] at h
    by_cases hy : y = z
    · subst hy; rw [if_pos rfl] at h; cases h; exact ⟨by simpa using h1, h2⟩
    · rw [if_neg hy] at h; exact r.get y p h
inductive SameAddr : List (Str × Addr × D) → List (Str × Addr × D) → Prop
  | nil : SameAddr [] []
  | cons {x : Str} {a : Addr} {d d' : D} {l l' : List (Str × Addr × D)} : SameAddr l l' → SameAddr ((x, a, d) :: l) ((x, a, d') :: l')
theorem SameAddr.get : ∀ {l l' : List (Str × Addr × D)}, SameAddr l l' → ∀ x p, l.lookup x = some p → ∃ q, l'.lookup x = some q ∧ q.1 = p.1
  | _, _, .nil, x, p, h => by cases h
  | _, _, .cons (x := y) (d' := d') r, x, p, h => by
    rw [lookup_two] at h ⊢
    by_cases hy : x = y
    · rw [if_pos hy] at h ⊢; cases h; exact ⟨_, rfl, rfl⟩
    · rw [if_neg hy] at h ⊢; exact r.get x p h
/-- names of a target: local, and no own object's -/
inductive Tgt (env : Env) (O : List (Str × Addr × D)) : List (Str × D) → Prop
  | nil : Tgt env O []
  | cons {x : Str} {d : D} {r : List (Str × D)} : env.kindOf x = some .local → O.lookup x = none → Tgt env O r → Tgt env O ((x, d) :: r)
theorem Tgt.get {env : Env} {O : List (Str × Addr × D)} : ∀ {r : List (Str × D)}, Tgt env O r → ∀ x d, r.lookup x = some d → env.kindOf x = some .local ∧ O.lookup x = none
  | _, .nil, x, d, h => by cases h
  | _, .cons (x := y) h1 h2 r, x, d, h => by
    rw [lookup_two] at h
    by_cases hy : x = y
    · subst hy; exact ⟨h1, h2⟩
    · rw [if_neg hy] at h; exact r.get x d h
section
variable {prog : Program} {w : World} {c : Cx}
theorem EvT.eq {e : Expr} {b b' : Bool} (h : EvT prog w c e b) (hb : b = b') : EvT prog w c e b' := hb ▸ h
theorem Ev.eq {e : Expr} {b b' : D} (h : Ev prog w c e b) (hb : b = b') : Ev prog w c e b' := hb ▸ h
theorem EvN.eq {e : Expr} {b b' : D} (h : EvN prog w c e b) (hb : b = b') : EvN prog w c e b' := hb ▸ h
end

/-! ## the law's entry -/
def wordB (z : Int) : List UInt8 := match (z.fmod 5).toNat with
  | 0 => [102]
  | 1 => []
  | 2 => [103]
  | 3 => [255]
  | _ => [102, 32, 103]
def idB (y : Int) : List UInt8 := match (y.fmod 5).toNat with
  | 0 => [48, 45, 48]
  | 1 => [53, 45, 49]
  | 2 => [53, 45, 50]
  | 3 => [49, 55, 45, 48]
  | _ => [52, 48, 48, 45, 51]
theorem fmod_lt (z : Int) : 0 ≤ z.fmod 5 ∧ z.fmod 5 < 5 := ⟨Int.fmod_nonneg_of_pos _ (by decide), Int.fmod_lt_of_pos _ (by decide)⟩
theorem word_get (z : Int) : wordsD[(z.fmod 5).toNat]? = some (.bytes (wordB z)) := by
  obtain ⟨h1, h2⟩ := fmod_lt z
  unfold wordB
  have : (z.fmod 5).toNat = 0 ∨ (z.fmod 5).toNat = 1 ∨ (z.fmod 5).toNat = 2 ∨ (z.fmod 5).toNat = 3 ∨ (z.fmod 5).toNat = 4 := by omega
  rcases this with h | h | h | h | h <;> rw [h] <;> rfl
theorem id_get (z : Int) : idsD[(z.fmod 5).toNat]? = some (.bytes (idB z)) := by
  obtain ⟨h1, h2⟩ := fmod_lt z
  unfold idB
  have : (z.fmod 5).toNat = 0 ∨ (z.fmod 5).toNat = 1 ∨ (z.fmod 5).toNat = 2 ∨ (z.fmod 5).toNat = 3 ∨ (z.fmod 5).toNat = 4 := by omega
  rcases this with h | h | h | h | h <;> rw [h] <;> rfl
theorem index_ok {k : Int} {n : Nat} (h : 0 ≤ k) (h' : k < n) : seqIndex? k n = some k.toNat := by
  unfold seqIndex?
  simp only [show ¬ k < 0 by omega, if_false]
  simp [h']; omega
/-- the k-th z -/
def zOf (y : Int) (k : Nat) : Int := y.fdiv (5 * 25 ^ k)
def flatOf (y : Int) (n : Nat) : List D := ((List.range n).map fun k => [D.bytes (wordB (zOf y k)), D.bytes (wordB ((zOf y k).fdiv 5))]).flatten
def fieldsOf (y : Int) (n : Nat) : List (Key × D) := (List.range n).foldl (fun l k => put l (.b (wordB (zOf y k))) (.bytes (wordB ((zOf y k).fdiv 5)))) []
theorem flat_succ (y : Int) (n : Nat) : flatOf y (n + 1) = flatOf y n ++ [D.bytes (wordB (zOf y n)), D.bytes (wordB ((zOf y n).fdiv 5))] := by
  unfold flatOf; rw [List.range_succ, List.map_append, List.flatten_append]; simp
theorem fields_succ (y : Int) (n : Nat) : fieldsOf y (n + 1) = put (fieldsOf y n) (.b (wordB (zOf y n))) (.bytes (wordB ((zOf y n).fdiv 5))) := by
  unfold fieldsOf; rw [List.range_succ, List.foldl_append]; rfl
theorem flat_len (y : Int) : ∀ n, (flatOf y n).length = 2 * n
  | 0 => rfl
  | n + 1 => by rw [flat_succ, List.length_append, flat_len y n]; simp; omega
theorem fields_len (y : Int) : ∀ n, (fieldsOf y n).length ≤ n
  | 0 => Nat.le_refl _
  | n + 1 => by rw [fields_succ]; have := fields_len y n; have := put_len (fieldsOf y n) (.b (wordB (zOf y n))) (.bytes (wordB ((zOf y n).fdiv 5))); omega
/-- how many pairs -/
def nOf (x : Int) : Nat := (x.fmod 4 - 1).toNat
def toldOf (x : Int) (cl : Bool) : D :=
  let y := x.fdiv 4
  if x.fmod 4 = 0 then .none else .list ([.bytes (idB y), .list (flatOf y (nOf x))] ++ if cl then [.int (y.fmod 100), .int (1 + y.fmod 3)] else [])
def seenOf (x : Int) (cl : Bool) : D :=
  let y := x.fdiv 4
  if x.fmod 4 = 0 then .tuple [.none, .none] else .tuple ([.bytes (idB y), mkD (fieldsOf y (nOf x))] ++ if cl then [.int (y.fmod 100), .int (1 + y.fmod 3)] else [])
def entryD (x : Int) (cl : Bool) : D := .tuple [toldOf x cl, seenOf x cl]

theorem lim8 {ds : List D} (h : ds.length ≤ 64 := by simp only [List.length_cons, List.length_nil]; omega) : ds.length ≤ lim := Nat.le_trans h (by decide)
structure Fit (A : Around) (n : Nat) : Prop where
  hand : A.handled = none
  room : A.depth + n ≤ recursionLimit

section
variable {prog : Program} {w : World}
theorem bind_entry {B : Heap} {fd : FuncData} (h : FnIs B fd 19) (u v : Value) : bindArgs fd ⟨[u, v], []⟩ = pure [((("x" : Str), u) : Str × Value), (("claimed" : Str), v)] := by
  have hd : fd.defaults = .none := by
    rcases h.dflt with ⟨_, h⟩ | ⟨h, _⟩
    · exact h
    · cases h
  unfold bindArgs
  simp only [h.params, hd]
  rfl
set_option maxHeartbeats 4000000 in
theorem spec_entry {A : Around} (hA : Fit A 1) (x : Int) (cl : Bool) : Spec prog w A 19 [.int x, .bool cl] [] (entryD x cl) := by
  intro B KB a o fd K s vs kvs R hB hKB h1 h2 h3 h4 hK hvs hkw q
  cases hvs with
  | @cons u _ _ _ ru rs =>
  cases rs with
  | @cons v _ _ _ rv rs =>
  cases rs
  have hk0 : kvs = [] := by have := hkw.names; simpa using this
  subst hk0
  refine enter (ρ := [("x", .int x), ("claimed", .bool cl)]) (Nat.lt_of_lt_of_le (Nat.lt_succ_self _) hA.room) hA.hand hB hKB h1 h2 h3 h4 hK (fun Q E hq => by
    rw [bind_entry h3]
    exact wpAny_pure (hq K _ s (.refl hK) rfl (.cons ru (.cons rv .nil)))) rfl rfl rfl (fun _ _ _ => rfl) fun L qn code => ?_
  refine runs_assign (ev_div (ev_name rfl) ev_int (by decide) (PyProof.noPylong_small (by decide))) ?_
  have fin : ∀ K' v s', Stp [] K s K' s' → Rep prog w K' v (entryD x cl) → R (.ok (.ret v)) s' := fun K' v s' st r => q K' v s' (st.toNext fun b hb => nomatch hb) r
  generalize hy : x.fdiv 4 = y
  by_cases hx : x.fmod 4 = 0
  · refine runs_if_true ((evT_cmp (ev_mod (ev_name rfl) ev_int (by decide)) ev_int evC_eqInt).eq (by simp [hx])) ?_
    refine runs_return (.ofN (evn_tuple (evL_cons ev_none (evL_cons (.ofN (evn_tuple (evL_cons ev_none (evL_cons ev_none evL_nil)) lim8)) evL_nil)) lim8)) fun K' v s' st r => fin K' v s' st ?_
    unfold entryD toldOf seenOf
    rw [if_pos hx, if_pos hx]; exact r
  refine runs_if_false ((evT_cmp (ev_mod (ev_name rfl) ev_int (by decide)) ev_int evC_eqInt).eq (by simp [hx])) (runs_pop ?_)
  have hx4 : 0 ≤ x.fmod 4 ∧ x.fmod 4 < 4 := ⟨Int.fmod_nonneg_of_pos _ (by decide), Int.fmod_lt_of_pos _ (by decide)⟩
  refine runs_assign (ev_subT (.of (ev_glob (x := "_law_ids") (d := .tuple idsD) (by simp [glTab])) rfl) (ev_mod (ev_name rfl) ev_int (by decide)) (index_ok (fmod_lt y).1 (fmod_lt y).2) (id_get y)) ?_
  refine runs_assign_own (evn_list evL_nil (Nat.zero_le _)) fun al hal => ?_
  refine runs_assign_own evn_dict0 fun af haf => ?_
  refine runs_for (fun i => [("name", .bytes (idB y)), ("y", .int y), ("claimed", .bool cl), ("x", .int x)]) (fun i => [("fields", af, mkD (fieldsOf y i)), ("flat", al, .list (flatOf y i))]) (β := fun i => [("k", .int i)])
    (evIt_range (ev_sub (ev_mod (ev_name rfl) ev_int (by decide)) ev_int) (by have : lim = 4096 := rfl; omega) (by omega)) (fun i d hd => by have := up_get hd; subst this; exact puts_name rfl rfl) (fun i => (Tgt.cons rfl rfl .nil).get)
    (fun _ _ h => h) (Less.cons rfl (.cons rfl .nil)).get (fun i => (SameAddr.cons (.cons .nil)).get) (fun i d α' hd => ?_) (N := nOf x) (by simp [upD, nOf]) ?_
  · have hi : i < 3 := by
      have h1 := (List.getElem?_eq_some_iff.mp hd).1
      simp only [upD, List.length_map, List.length_range] at h1
      omega
    have hp : (5 * 25 ^ i : Int) = 5 ∨ (5 * 25 ^ i : Int) = 125 ∨ (5 * 25 ^ i : Int) = 3125 := by
      have : i = 0 ∨ i = 1 ∨ i = 2 := by omega
      rcases this with rfl | rfl | rfl <;> simp
    refine runs_assign (x := "z") (d := .int (zOf y i)) (ev_div (ev_name rfl) (ev_mul ev_int (ev_pow (n := (i : Int)) ev_int (ev_name rfl) (by omega) (by rw [show Builtin.Int.intBits 25 = 5 by decide +kernel]; omega)) (.of_left (by decide +kernel))) (b := 5 * 25 ^ i) (by rcases hp with h | h | h <;> rw [h] <;> decide) (PyProof.noPylong_small (by rcases hp with h | h | h <;> rw [h] <;> decide))) ?_
    refine runs_append (ev_subT (.of (ev_glob (x := "_law_words") (d := .tuple wordsD) (by simp [glTab])) rfl) (ev_mod (ev_name rfl) ev_int (by decide)) (index_ok (fmod_lt _).1 (fmod_lt _).2) (word_get _)) ?_ rfl (by rw [List.length_append, flat_len]; have : lim = 4096 := rfl; simp; omega)
    refine runs_append (ev_subT (.of (ev_glob (x := "_law_words") (d := .tuple wordsD) (by simp [glTab])) rfl) (ev_mod (ev_div (ev_name rfl) ev_int (by decide) (PyProof.noPylong_small (by decide))) ev_int (by decide)) (index_ok (fmod_lt _).1 (fmod_lt _).2) (word_get _)) ?_ rfl (by rw [List.length_append, List.length_append, flat_len]; have : lim = 4096 := rfl; simp; omega)
    refine runs_setD (k := .b (wordB (zOf y i))) (ev_subT (.of (ev_glob (x := "_law_words") (d := .tuple wordsD) (by simp [glTab])) rfl) (ev_mod (ev_div (ev_name rfl) ev_int (by decide) (PyProof.noPylong_small (by decide))) ev_int (by decide)) (index_ok (fmod_lt _).1 (fmod_lt _).2) (word_get _))
      (ev_subT (.of (ev_glob (x := "_law_words") (d := .tuple wordsD) (by simp [glTab])) rfl) (ev_mod (ev_name rfl) ev_int (by decide)) (index_ok (fmod_lt _).1 (fmod_lt _).2) (word_get _)) ?_ rfl (by have h1 := put_len (fieldsOf y i) (.b (wordB (zOf y i))) (.bytes (wordB ((zOf y i).fdiv 5))); have h2 := fields_len y i; have : lim = 4096 := rfl; omega)
    refine runs_pop (runs_end fun K2 s2 f => ⟨rfl, K2, f.less (Less.cons rfl (.cons rfl (.cons rfl (.cons rfl .nil)))).get (Less.own rfl (congrArg mkD (fields_succ y i)) (.own rfl (congrArg D.list ((flat_succ y i).trans (List.append_assoc _ [_] [_]).symm)) .nil)).get⟩)
  · refine runs_seal "flat" (O' := [("fields", af, mkD (fieldsOf y (nOf x)))]) ?_ hal rfl (But.cons rfl rfl .nil).get
    refine runs_seal "fields" (O' := []) ?_ haf rfl But.nil.get
    cases cl with
    | true =>
      refine runs_if_true (evT_bool (ev_name rfl)) ?_
      refine runs_return (.ofN (evn_tuple (evL_cons (.ofN (evn_list (evL_cons (ev_name rfl) (evL_cons (ev_name rfl) (evL_cons (ev_mod (ev_name rfl) ev_int (by decide)) (evL_cons (ev_add ev_int (ev_mod (ev_name rfl) ev_int (by decide))) evL_nil)))) lim8))
        (evL_cons (.ofN (evn_tuple (evL_cons (ev_name rfl) (evL_cons (ev_name rfl) (evL_cons (ev_mod (ev_name rfl) ev_int (by decide)) (evL_cons (ev_add ev_int (ev_mod (ev_name rfl) ev_int (by decide))) evL_nil)))) lim8)) evL_nil)) lim8)) fun K' v s' st r => fin K' v s' st ?_
      unfold entryD toldOf seenOf
      rw [if_neg hx, if_neg hx, hy]; exact r
    | false =>
      refine runs_if_false (evT_bool (ev_name rfl)) (runs_pop ?_)
      refine runs_return (.ofN (evn_tuple (evL_cons (.ofN (evn_list (evL_cons (ev_name rfl) (evL_cons (ev_name rfl) evL_nil)) lim8))
        (evL_cons (.ofN (evn_tuple (evL_cons (ev_name rfl) (evL_cons (ev_name rfl) evL_nil)) lim8)) evL_nil)) lim8)) fun K' v s' st r => fin K' v s' st ?_
      unfold entryD toldOf seenOf
      rw [if_neg hx, if_neg hx, hy]; exact r
end
end Mine
namespace Mine
open PySem.Builtin in
theorem road_eq2 {id : String} {b : Array UInt8} {e : PySem.Str} : _codecs.decodeRoad id b (PySem.Str.ofString "utf-8") (some e) [] = (_codecs.runDecoder id _codecs.utf8Decoder (some e) true b 0 [] >>= fun r => mkStr ⟨r.1⟩) := by kernel_rfl
open PySem.Builtin in
theorem meets_text2 {b : Array UInt8} {t t1 t2 t3 : Tok} {x d e : PySem.Str} {n : Nat} (hd : ∀ id, _codecs.runDecoder id _codecs.utf8Decoder (some e) true b 0 [] = pure (x.cps, n)) :
    Meets («_codecs.decode.text» ⟨[.bytes b t, .str (PySem.Str.ofString "utf-8") t1, .str e t3, .str d t2], []⟩) (fun _ R s => x.length ≤ sizeLine ∧ R (.ok (.ret (.str x s.toks))) { s with toks := s.toks + 1 }) := by
  refine .of_wp fun prog w A R s hS => ?_
  obtain ⟨hsz, h⟩ := hS
  show wpAny _ _ (Bytes.bytesLike _ (.bytes b t) >>= fun r => _) _ _ s
  refine wpAny_bind (wpAny_of_eq KBd.like_eq ?_)
  refine wpAny_bind (wpAny_of_eq KBd.held_eq ?_)
  show wpAny _ _ (_codecs.decodeRoad _ b (PySem.Str.ofString "utf-8") (some e) [] >>= fun v => _) _ _ s
  rw [road_eq2, hd]
  refine wpAny_bind (wpAny_bind (wpAny_pure ?_))
  exact wpAny_mkStr (wpAny_pure ⟨_, rfl, h⟩) hsz
open PySem.Builtin in
theorem entry_eq2 {c : UInt8} {cs : List UInt8} {t t1 t2 : Tok} : «bytes.decode» ⟨[.bytes (c :: cs).toArray t, .str (PySem.Str.ofString "utf-8") t1], [(PySem.Str.ofString "errors", .str (PySem.Str.ofString "replace") t2)]⟩ =
    (mkStr (PySem.Str.ofString "utf-8") >>= fun _ => mkStr (PySem.Str.ofString "utf-8") >>= fun e => mkStr (PySem.Str.ofString "replace") >>= fun r => mkStr (PySem.Str.ofString "bytes.decode") >>= fun d =>
    call (.builtin "_codecs.decode.text") [.bytes (c :: cs).toArray t, e, r, d] >>= fun v => ret v) := by kernel_rfl
theorem args_decode2 (a b c : Value) : argsOk "bytes.decode" ⟨[a, b], [(PySem.Str.ofString "errors", c)]⟩ := by
  unfold argsOk; rw [signature?_of (id := "bytes.decode") (n := ['e', 'd', 'o', 'c', 'e', 'd']) (o := ['s', 'e', 't', 'y', 'b']) (by kernel_rfl) FB.owner_bytes]; kernel_rfl

/-- these bytes are this text -/
structure Dec (b : List UInt8) (x : Str) : Prop where
  some : b ≠ []
  small : x.length ≤ 16777216
  dec : ∃ n, ∀ id, Builtin._codecs.runDecoder id Builtin._codecs.utf8Decoder (Option.some (PySem.Str.ofString "replace")) true b.toArray 0 [] = pure (x.cps, n)
section
variable {prog : Program} {w : World} {c : Cx}
theorem call_decode {A : Around} {E : Value → Shared → Prop} {s : Shared} {b : List UInt8} {x : Str} {t t1 t2 : Tok} {Q : Value → Shared → Prop} (hd : Dec b x) (h : ∀ t' k, Q (.str x t') { s with toks := k }) :
    wpAny (model prog w) A (call (.builtin "bytes.decode") [.bytes b.toArray t, .str (PySem.Str.ofString "utf-8") t1] [(PySem.Str.ofString "errors", .str (PySem.Str.ofString "replace") t2)]) Q E s := by
  obtain ⟨hb, hs, n, hd⟩ := hd
  cases b with
  | nil => exact absurd rfl hb
  | cons u us =>
  refine wpAny_call (codeAny_call_builtin FB.slot_bytes_decode.plain FB.entry_bytes_decode (FB.slot_bytes_decode.check _ _ _ _ _ _ _ _ (typeIs_bytes _ _ _) (args_decode2 _ _ _) ?_))
  rw [entry_eq2]
  refine wpAny_bind (wpAny_mkStr ?_ (by decide))
  refine wpAny_bind (wpAny_mkStr ?_ (by decide))
  refine wpAny_bind (wpAny_mkStr ?_ (by decide))
  refine wpAny_bind (wpAny_mkStr ?_ (by decide))
  exact wpAny_bind (call_function_meets KBd.kind_text KBd.plain_text KBd.entry_text (KBd.args_text _ _ _ _) (meets_text2 hd) ⟨by rw [sizeLine_eq]; exact hs, wpAny_pure (h _ _)⟩)
theorem call_isi_bytes {A : Around} {E : Value → Shared → Prop} {s : Shared} {b : Array UInt8} {t : Tok} {Q : Value → Shared → Prop} (h : Q (.bool true) s) : wpAny (model prog w) A (call (.builtin "isinstance") [.bytes b t, .type "bytes"]) Q E s :=
  call_isinstance (isinstance_true (Tx := "bytes") PySem.F.isi_meta_bytes PySem.F.sub_bytes_bytes) ⟨rfl, h⟩
/-- isinstance(e, T) -/
theorem isi_road {K : KM} {s : Shared} (ok : Ok prog w c K s) {p tp pos : Pos} {e : Expr} {T : String} {t : Str} {Q : Value → Shared → Prop} {E : Value → Shared → Prop} (hT : (t, .type T) ∈ biTab)
    (h : wpAny (model prog w) c.A (eval e c.env) (fun v s1 => (∃ K1, Next K s K1 s1) ∧ wpAny (model prog w) c.A (call (.builtin "isinstance") [v, .type T]) Q E s1) E s)
    (hk : c.env.kindOf "isinstance" = some .globalImplicit) (hkT : c.env.kindOf t = some .globalImplicit) (hd : (t == ("__debug__" : Str)) = false)
    (he : starEach [e, .Name t tp] c.env = (false, eval e c.env) :: starEach [.Name t tp] c.env) (he2 : starEach [.Name t tp] c.env = (false, eval (.Name t tp) c.env) :: starEach [] c.env) : wpAny (model prog w) c.A (eval (.Call (.Name "isinstance" p) [e, .Name t tp] [] pos) c.env) Q E s := by
  refine wpAny_Call_Name_kw (load_bi ok (f := "isinstance") (v := .builtin "isinstance") (by simp [biTab]) hk (by decide) p ?_)
  have h1 : wpAny (model prog w) c.A (spliced (backTo pos (starEach [e, .Name t tp] c.env))) (fun vs s1 => wpAny (model prog w) c.A (call (.builtin "isinstance") vs) Q E s1) E s := by
    rw [he]
    refine spliced_cons (wpAny_mono h (fun v s1 h1 => ?_) fun _ _ x => x)
    obtain ⟨⟨K1, n1⟩, h2⟩ := h1
    rw [he2]
    exact spliced_cons (load_bi (ok.next n1) hT hkT hd tp (spliced_nil h2))
  rw [he, he2] at h1 ⊢
  exact callWith_builtin rfl (evalArgs_plain h1)
theorem ev_isiR {p tp pos : Pos} {e : Expr} {T : String} {t : Str} {d : D} {b : Bool} (h : EvR prog w c e d) (hT : (t, .type T) ∈ biTab)
    (hi : ∀ (s : Shared) a (Q : Value → Shared → Prop) (E : Value → Shared → Prop) K, TopAt prog w K s.heap a d → (∀ tk, Q (.bool b) { s with toks := tk }) → wpAny (model prog w) c.A (call (.builtin "isinstance") [.ref a, .type T]) Q E s)
    (hk : c.env.kindOf "isinstance" = some .globalImplicit := by rfl) (hkT : c.env.kindOf t = some .globalImplicit := by rfl) (hd : (t == ("__debug__" : Str)) = false := by decide)
    (he : starEach [e, .Name t tp] c.env = (false, eval e c.env) :: starEach [.Name t tp] c.env := by rfl) (he2 : starEach [.Name t tp] c.env = (false, eval (.Name t tp) c.env) :: starEach [] c.env := by rfl) : Ev prog w c (.Call (.Name "isinstance" p) [e, .Name t tp] [] pos) (.bool b) := fun K s Q E ok q =>
  isi_road ok hT (h K s _ E ok fun K1 a s1 n1 t1 => ⟨⟨K1, n1⟩, hi s1 a _ _ K1 t1 fun tk => q K1 _ _ (n1.trans (.toks n1.inH tk)) (.bool b)⟩) hk hkT hd he he2
theorem isi_list_list {ds : List D} : ∀ (s : Shared) a (Q : Value → Shared → Prop) (E : Value → Shared → Prop) K, TopAt prog w K s.heap a (.list ds) → (∀ tk, Q (.bool true) { s with toks := tk }) → wpAny (model prog w) c.A (call (.builtin "isinstance") [.ref a, .type "list"]) Q E s := fun s a Q E K t q => by
  cases t with | list h1 h2 => exact IsiPair.list_list h1 h2 (q s.toks)
theorem isi_list_dict {ds : List D} : ∀ (s : Shared) a (Q : Value → Shared → Prop) (E : Value → Shared → Prop) K, TopAt prog w K s.heap a (.list ds) → (∀ tk, Q (.bool false) { s with toks := tk }) → wpAny (model prog w) c.A (call (.builtin "isinstance") [.ref a, .type "dict"]) Q E s := fun s a Q E K t q => by
  cases t with | list h1 h2 => exact IsiPair.list_dict h1 h2 (q _)
theorem isi_dict_list {ks : List Key} {ds : List D} : ∀ (s : Shared) a (Q : Value → Shared → Prop) (E : Value → Shared → Prop) K, TopAt prog w K s.heap a (.dict ks ds) → (∀ tk, Q (.bool false) { s with toks := tk }) → wpAny (model prog w) c.A (call (.builtin "isinstance") [.ref a, .type "list"]) Q E s := fun s a Q E K t q => by
  cases t with | dict h1 h2 => exact IsiPair.dict_list h1 (let ⟨_, _, h, _⟩ := h2; h.1) (q _)
theorem isi_dict_dict {ks : List Key} {ds : List D} : ∀ (s : Shared) a (Q : Value → Shared → Prop) (E : Value → Shared → Prop) K, TopAt prog w K s.heap a (.dict ks ds) → (∀ tk, Q (.bool true) { s with toks := tk }) → wpAny (model prog w) c.A (call (.builtin "isinstance") [.ref a, .type "dict"]) Q E s := fun s a Q E K t q => by
  cases t with | dict h1 h2 => exact IsiPair.dict_dict h1 (let ⟨_, _, h, _⟩ := h2; h.1) (q s.toks)

theorem methodCall_kw {M : Model} {A : Around} {E : Value → Shared → Prop} {s : Shared} {env : Env} {o : Expr} {name : Str} {apos pos : Pos} {args : List Expr} {kws : List Keyword} {pl : Sem Bool} {Q : Value → Shared → Prop}
    (h : wpAny M A (eval o env) (fun ov s₁ => wpAny M A (getMethod ov name pl) (fun fx s₂ => wpAny M A (callWith pos fx.1 fx.2 (backTo pos (starEach args env)) (backToKw pos (keywordEach kws env))) Q E s₂) E s₁) E s)
    (he : eval (.Call (.Attribute o name apos) args kws pos) env = (do
      let ov ← eval o env
      standAt apos.atName
      let (f, first) ← holding [ov] (getMethod ov name pl)
      callWith pos f first (backTo pos (starEach args env)) (backToKw pos (keywordEach kws env)))) :
    wpAny M A (eval (.Call (.Attribute o name apos) args kws pos) env) Q E s := by
  rw [he]
  exact wpAny_bind (wpAny_mono h (fun ov s₁ h₁ => wpAny_bind (wpAny_standAt (wpAny_bind (wpAny_holding (wpAny_mono h₁ (fun fx s₂ h₂ => h₂) fun _ _ x => x))))) fun _ _ x => x)
theorem ev_decode {e : Expr} {ap pos p1 p2 p3 : Pos} {m1 m2 : Nat} {b : List UInt8} {x : Str} {pl : Sem Bool} (h : Ev prog w c e (.bytes b)) (hd : Dec b x)
    (he : eval (.Call (.Attribute e "decode" ap) [.Constant (.str "utf-8") m1 p1] [⟨some "errors", .Constant (.str "replace") m2 p2, p3⟩] pos) c.env = (do
      let ov ← eval e c.env
      standAt ap.atName
      let (f, first) ← holding [ov] (getMethod ov "decode" pl)
      callWith pos f first (backTo pos (starEach [.Constant (.str "utf-8") m1 p1] c.env)) (backToKw pos (keywordEach [⟨some "errors", .Constant (.str "replace") m2 p2, p3⟩] c.env))) := by rfl) :
    Ev prog w c (.Call (.Attribute e "decode" ap) [.Constant (.str "utf-8") m1 p1] [⟨some "errors", .Constant (.str "replace") m2 p2, p3⟩] pos) (.str x) := fun K s Q E ok q =>
  methodCall_kw (h K s _ E ok fun K1 v s1 n1 r1 => by
    cases r1 with
    | bytes _ t =>
    refine KBd.method ?_
    refine callWith_builtin_kwB rfl rfl ?_
    show wpAny _ _ (evalArgs _ true ((false, eval (.Constant (.str "utf-8") m1 p1) c.env) :: backTo pos []) _) _ _ _
    refine evalArgs_kwB rfl (spliced_cons (ev_str K1 s1 _ _ (ok.next n1) fun K2 v2 s2 n2 r2 => spliced_nil ?_))
    refine kws_cons (ev_str K2 s2 _ _ ((ok.next n1).next n2) fun K3 v3 s3 n3 r3 => kws_nil ?_)
    cases r2 with
    | str _ t2 =>
    cases r3 with
    | str _ t3 =>
    exact call_decode hd fun t' k => q K3 _ _ (((n1.trans n2).trans n3).trans (.toks n3.inH k)) (.str x t')) he
end
end Mine
namespace Mine
/-! ## a zip has no keys -/
theorem entry_zip_ga : entryFor table "zip.__getattribute__" = some Builtin.«object.__getattribute__» :=
  entryFor_alias (id' := "object.__getattribute__") (by rw [fastTable_eq_tree]; kernel_rfl) (by first | rfl | decide +kernel) (by decide +kernel) (by rw [fastTable_eq_tree]; kernel_rfl)
theorem lk_zip_keys : typeLookup (.type "zip") "keys" = pure none := by rw [typeLookup_type, builtinLookup_eq_fast]; kernel_rfl
theorem lk_zip_hook : typeLookup (.type "zip") "__getattr__" = pure none := by rw [typeLookup_type, builtinLookup_eq_fast]; kernel_rfl
section
theorem meets_zip_keys (a : Addr) (fs : Array Value) (u : Tok) : Meets (Builtin.«object.__getattribute__» ⟨[.ref a, .str (Str.ofString "keys") u], []⟩) (fun A R s => s.heap.get? a = some { cls := .type "zip", dict := none, data := .fields fs, slots := #[] } ∧ raisesAttr (.ref a) "keys" A R s) :=
  Meets.of_wp fun prog w A R s hs => by
    obtain ⟨hp, g, d, tk, os⟩ := s
    obtain ⟨hx, hs⟩ := hs
    have hx' : hp.get? a = some { cls := .type "zip", dict := none, data := .fields fs, slots := #[] } := hx
    have hT : (⟨hp, g, d, tk, os⟩ : Shared).TypeIs (.ref a) "zip" := ⟨_, hx, rfl⟩
    have f4 := lk_zip_keys
    have f7 := PySem.F.slot_zip_getattribute.lookup
    unfold Builtin.«object.__getattribute__»
    repeat (any_goals (first | assumption | wp_step))
    exact wpAny_raiseAttrError hs.1 hs.2 (by size_fits)
variable {prog : Program} {w : World} {A : Around} {E : Value → Shared → Prop}
theorem zip_no_keys {s : Shared} {a : Addr} {fs : Array Value} {Q : Option Value → Shared → Prop} (hA : A.handled = none) (hx : s.heap.get? a = some { cls := .type "zip", dict := none, data := .fields fs, slots := #[] })
    (h : ∀ h' tk, (∀ b o, s.heap.get? b = some o → h'.get? b = some o) → Q none { s with heap := h', toks := tk }) : wpAny (model prog w) A (getAttr? (.ref a) "keys") Q E s := by
  obtain ⟨hp, g, d, tk, os⟩ := s
  have hx' : hp.get? a = some { cls := .type "zip", dict := none, data := .fields fs, slots := #[] } := hx
  have hT : ∀ t : Nat, (⟨hp, g, d, t, os⟩ : Shared).TypeIs (.ref a) "zip" := fun _ => ⟨_, hx', rfl⟩
  have f1 := sub_AttributeError
  have f3 := PySem.F.slot_zip_getattribute.lookup
  have f4 := PySem.F.slot_zip_getattribute.bind (.ref a)
  have f5 := lk_zip_hook
  unfold getAttr? getAttrBy? getAttrBy
  repeat (any_goals (first | assumption | exact hT _ | ((with_reducible show wpAny _ _ (call (Value.builtin "zip.__getattribute__") _ _) _ _ _); refine call_meets PySem.F.slot_zip_getattribute (hT _) entry_zip_ga (PySem.F.args_zip_getattribute_2 _ _) (meets_zip_keys a fs _) ⟨hx', hA, fun h' tk' e hx => ?_⟩) | wp_step))
  obtain ⟨t', u', he⟩ := hx.there
  have k := hx.keeps
  show wpAny _ _ (getattributeRaised _ _ _ _ _ _ _) _ _ _
  unfold getattributeRaised
  repeat (any_goals (first | assumption | wp_step))
  exact h _ _ k
end
end Mine
namespace Mine
/-! ## dict(zip(..)) -/
theorem plain_update_loop : plainId "dict.update.loop" = true := by decide +kernel
theorem entry_update_loop : entryFor table "dict.update.loop" = some Builtin.«dict.update.loop» := entryFor_of_tree (by kernel_rfl)
def tgt0 : Expr := .Name "" default
def pairD (p : Key × D) : D := .tuple [keyD p.1, p.2]
def puts (xs : List (Key × D)) (l : List (Key × D)) : List (Key × D) := xs.foldl (fun l p => put l p.1 p.2) l
theorem puts_len : ∀ (xs l : List (Key × D)), (puts xs l).length ≤ l.length + xs.length
  | [], l => by simp [puts]
  | p :: xs, l => by
    have h1 := puts_len xs (put l p.1 p.2)
    have h2 := put_len l p.1 p.2
    show (puts xs (put l p.1 p.2)).length ≤ _
    rw [List.length_cons]; omega
section
variable {prog : Program} {w : World}
theorem dict_loop {A : Around} {I : Addr} {W : List Addr} {St : Nat → KM → Heap → Prop} {xs : List (Key × D)} (it : It prog w A.in1 tgt0 I W (xs.map pairD) St) (hz : xs.length ≤ lim) (Dd : Addr) (hDW : Dd ∉ W) {R : Result → Shared → Prop} :
    ∀ (k i : Nat) (j : Int) (K : KM) (s : Shared) (kvs : List (Key × Value)) (l : List (Key × D)), xs.length - i = k → i ≤ xs.length → St i K s.heap → InH K s.heap → (∀ b ∈ Dd :: W, K b = none) → s.heap.DictOf (keyKind prog w) Dd kvs → DAt prog w K kvs l → l.length ≤ i →
      (∀ K' s' kvs', Stp (Dd :: W) K s K' s' → s'.heap.DictOf (keyKind prog w) Dd kvs' → DAt prog w K' kvs' (puts (xs.drop i) l) → R (.ok (.ret .none)) s') →
      codeAny (model prog w) A (.builtin "dict.update.loop" ⟨[.ref Dd, .ref I, rawInt j, .none], []⟩) R s
  | 0, i, j, K, s, kvs, l, hk, hi, st, hin, hK, hd, hl, hli, hR => by
    have hin' : i = xs.length := by omega
    refine codeAny_builtin entry_update_loop ?_
    rw [Around.under_plainId plain_update_loop _]
    show wpAny _ A.in1 (pyNext (.ref I) >>= _) _ _ s
    have hlen : (xs.map pairD).length = i := by rw [List.length_map, hin']
    refine wpAny_bind (it.done K s _ _ (hlen ▸ st) hin (fun b hb => hK b (by simp [hb])) fun s1 stp1 => ?_)
    have al : ∃ o, s.heap.get? Dd = some o := let ⟨o, _, _, e, _⟩ := hd; ⟨o, e⟩
    have e1 : Stp (Dd :: W) K s K s1 := stp1.weaken (fun b hb => by simp [hb]) fun b hb => ⟨hK b hb, by
      rcases List.mem_cons.mp hb with rfl | hb
      · exact al
      · exact it.live i K _ st b hb⟩
    show wpAny _ _ (Builtin.Dict.addKeywords Dd [] >>= fun _ => ret .none) _ _ s1
    refine wpAny_bind (wpAny_pure (wpAny_pure ?_))
    refine hR K s1 kvs e1 (hd.at fun o e => stp1.kept Dd o hDW e) ?_
    rw [hin', List.drop_length]; exact hl
  | k + 1, i, j, K, s, kvs, l, hk, hi, st, hin, hK, hd, hl, hli, hR => by
    have hlt : i < xs.length := by omega
    obtain ⟨p, hp⟩ : ∃ p, xs[i]? = some p := ⟨_, List.getElem?_eq_getElem hlt⟩
    have hpd : (xs.map pairD)[i]? = some (pairD p) := by rw [List.getElem?_map, hp]; rfl
    refine codeAny_builtin entry_update_loop ?_
    rw [Around.under_plainId plain_update_loop _]
    show wpAny _ A.in1 (pyNext (.ref I) >>= _) _ _ s
    have al : ∃ o, s.heap.get? Dd = some o := let ⟨o, _, _, e, _⟩ := hd; ⟨o, e⟩
    have lv : ∀ b ∈ Dd :: W, K b = none ∧ ∃ o, s.heap.get? b = some o := fun b hb => ⟨hK b hb, by
      rcases List.mem_cons.mp hb with rfl | hb
      · exact al
      · exact it.live i K _ st b hb⟩
    refine it.next hpd st hin (fun b hb => hK b (by simp [hb])) (fun _ => rfl) fun K1 v s1 stp1 st1 r1 => ?_
    have e1 : Stp (Dd :: W) K s K1 s1 := stp1.weaken (fun b hb => by simp [hb]) lv
    have hd1 := hd.at (h' := s1.heap) fun o e => stp1.kept Dd o hDW e
    cases r1 with
    | @tuple a o vs n _ h1 h2 h3 h4 h5 =>
    cases h4 with
    | @cons kv _ _ _ rk r4 =>
    cases r4 with
    | @cons vv _ _ _ rv r4 =>
    cases r4
    have ho := stp1.inH _ _ h1
    have hT : s1.TypeIs (.ref a) "tuple" := ⟨o, ho, h2⟩
    have pr : ∀ (Q : List Value → Shared → Prop) (E : Value → Shared → Prop), Q [kv, vv] s1 → wpAny (model prog w) A.in1 (Builtin.Dict.pairItems (.ref a)) Q E s1 := fun Q E hq => by
      unfold Builtin.Dict.pairItems
      refine wpAny_bind (wpAny_typeOf hT ?_)
      rw [if_pos (by decide)]
      refine wpAny_bind (wpAny_seqItems ho h3 (wpAny_pure ?_))
      exact hq
    refine wpAny_bind (wpAny_holding (wpAny_bind (wpAny_tryCatch (pr _ _ ?_))))
    have hlen : kvs.length ≤ sizeLine := by rw [hl.len]; exact lim_size (by omega)
    refine wpAny_holding (wpAny_dictSet_pairs (hsz := hlen) (key_is rk) hd1 fun h6 hd6 hs6 => ?_)
    have e2 : Stp (Dd :: W) K s K1 { s1 with heap := h6, toks := s1.toks + 1 } := e1.trans (.mk' e1.inH e1.out fun b o hb e => hs6.extBut b o (fun h => hb (by simp [h])) e)
    refine wpAny_pure ⟨plainId_quiet plain_update_loop _, ?_⟩
    refine dict_loop it hz Dd hDW k (i + 1) _ K1 _ _ (put l p.1 p.2) (by omega) hlt (it.frame _ _ _ _ _ st1 (.refl _) e2.inH fun b hb o e => (hs6.2 b (fun h => hDW (h ▸ hb))).trans e) e2.inH e2.out hd6 ((hl.mono stp1.sub).put rv) (by have := put_len l p.1 p.2; omega) fun K' s' kvs' stp' hd' hl' => ?_
    refine hR K' s' kvs' (e2.trans stp') hd' ?_
    have : xs.drop i = p :: xs.drop (i + 1) := by
      rw [List.drop_eq_getElem_cons hlt]
      congr 1
      rw [List.getElem?_eq_getElem hlt] at hp; cases hp; rfl
    rw [this]; exact hl'

theorem dict_of {c : Cx} {I : Addr} {W : List Addr} {St : Nat → KM → Heap → Prop} {xs : List (Key × D)} {K : KM} {s : Shared} {fs : Array Value} {Q : Value → Shared → Prop} {E : Value → Shared → Prop} (ok : Ok prog w c K s) (it : It prog w c.A.in1.in1 tgt0 I W (xs.map pairD) St) (hz : xs.length ≤ lim)
    (hI : s.heap.get? I = some { cls := .type "zip", dict := none, data := .fields fs, slots := #[] }) (hpi : ∀ (s' : Shared) (A : Around) (Q : Value → Shared → Prop) (E : Value → Shared → Prop), (∀ o, s.heap.get? I = some o → s'.heap.get? I = some o) → Q (.ref I) s' → wpAny (model prog w) A (pyIter (.ref I)) Q E s')
    (st : St 0 K s.heap) (hW : ∀ b ∈ W, K b = none)
    (q : ∀ K' a s', Stp W K s K' s' → s.heap.get? a = none → K' a = none → TopAt prog w K' s'.heap a (mkD (puts xs [])) → Q (.ref a) s') : wpAny (model prog w) c.A (call (.type "dict") [.ref I]) Q E s := by
  refine callType_codes (Q₁ := fun obj s₁ => obj = .ref s.heap.objs.size ∧ s₁ = { s with heap := s.heap.push { cls := .type "dict", data := .dict #[] } }) PySem.F.kt_called_dict (PySem.F.kt_typeCall_dict_1 _) PySem.F.entry_dict_init (kt_code_dict_new _ ⟨rfl, rfl⟩) ?_
  rintro obj s₁ ⟨rfl, rfl⟩
  have hnew : (s.heap.push { cls := .type "dict", data := .dict #[] }).DictOf (keyKind prog w) s.heap.objs.size [] := Heap.DictOf.new s.heap
  have hI' : (s.heap.push { cls := .type "dict", data := .dict #[] }).get? I = _ := Heap.get?_push_of_some _ hI
  have fD := get_size s.heap
  have hDK := none_of_fresh ok.inH fD
  have hDW : s.heap.objs.size ∉ W := fun h => by
    obtain ⟨o, e⟩ := it.live 0 K _ st _ h
    rw [fD] at e; cases e
  refine ⟨hnew.typeIs, PySem.F.args_dict_init_2 _ _, ?_⟩
  unfold Builtin.«dict.__init__»
  refine wpAny_bind ?_
  unfold Builtin.Dict.selfAndRest
  refine wpAny_bind (wpAny_notOrdered_dict hnew.typeIs ?_)
  show wpAny _ _ (pure (s.heap.objs.size, [Value.ref I])) _ _ _
  refine wpAny_pure ?_
  show wpAny _ _ (Builtin.Dict.updateFrom "dict.__init__" s.heap.objs.size (.ref I) [] .none) _ _ _
  unfold Builtin.Dict.updateFrom
  refine wpAny_bind (wpAny_typeOf (T := "zip") ⟨_, hI', rfl⟩ ?_)
  rw [if_pos (by decide)]
  refine wpAny_bind (zip_no_keys (show c.A.in1.in1.handled = none from ok.hand) hI' fun h1 tk1 hk1 => ?_)
  rw [if_pos (by rfl)]
  refine wpAny_bind (wpAny_rule (wpAny_bind (hpi _ _ _ _ (fun o e => hk1 I o (Heap.get?_push_of_some _ e)) ?_)))
  have k1 : ∀ b o, s.heap.get? b = some o → h1.get? b = some o := fun b o e => hk1 b o (Heap.get?_push_of_some _ e)
  have n1 : Next K s K { s with heap := h1, toks := tk1 } := .keep ok.inH (.of tk1 k1)
  refine wpAny_pure ⟨plainId_quiet plain_update_loop _, ?_⟩
  refine dict_loop it hz s.heap.objs.size hDW xs.length 0 0 K _ [] [] (by omega) (Nat.zero_le _) (it.frame 0 K K _ _ st (.refl _) n1.inH fun b _ o e => k1 b o e) n1.inH (fun b hb => by
    rcases List.mem_cons.mp hb with rfl | hb
    · exact hDK
    · exact hW b hb) (hnew.keep hk1) .nil (Nat.zero_le _) fun K' s' kvs' stp' hd' hl' => ?_
  refine ⟨rfl, q K' s.heap.objs.size s' ?_ fD (stp'.out _ (by simp)) (top_dict hd' hl' (ok.notMods (Nat.le_refl _)) ?_)⟩
  · have t := (stp_start n1 hW : Stp W K s K _)
    refine t.over stp' (fun b hb => ?_) fun b hb => ?_
    · rcases List.mem_cons.mp hb with rfl | hb
      · exact .inr fD
      · exact .inl hb
    · obtain ⟨o, e⟩ := it.live 0 K _ st b hb
      exact ⟨o, k1 b o e⟩
  · have := puts_len xs []; simp at this; exact Nat.le_trans this hz
end
end Mine
namespace Mine
/-! ## zip of two sources -/
structure Srcs (prog : Program) (w : World) (A : Around) (i1 i2 : Addr) (W : List Addr) (xs : List (D × D)) (J Jm : Nat → KM → Heap → Prop) : Prop where
  live : ∀ k K h, J k K h → ∀ b ∈ W, ∃ o, h.get? b = some o
  liveM : ∀ k K h, Jm k K h → ∀ b ∈ W, ∃ o, h.get? b = some o
  frame : ∀ i K K' h h', J i K h → Sub K K' → InH K' h' → (∀ b ∈ W, ∀ o, h.get? b = some o → h'.get? b = some o) → J i K' h'
  frameM : ∀ i K K' h h', Jm i K h → Sub K K' → InH K' h' → (∀ b ∈ W, ∀ o, h.get? b = some o → h'.get? b = some o) → Jm i K' h'
  first : ∀ k p K (s : Shared) (Q : Value → Shared → Prop) (E : Value → Shared → Prop), xs[k]? = some p → J k K s.heap → InH K s.heap → (∀ b ∈ W, K b = none) →
    (∀ K' v s', Stp W K s K' s' → Jm k K' s'.heap → Rep prog w K' v p.1 → Q v s') → wpAny (model prog w) A (Builtin.SmallTypes.nextOf (.ref i1)) Q E s
  second : ∀ k p K (s : Shared) (Q : Value → Shared → Prop) (E : Value → Shared → Prop), xs[k]? = some p → Jm k K s.heap → InH K s.heap → (∀ b ∈ W, K b = none) →
    (∀ K' v s', Stp W K s K' s' → J (k + 1) K' s'.heap → Rep prog w K' v p.2 → Q v s') → wpAny (model prog w) A (Builtin.SmallTypes.nextOf (.ref i2)) Q E s
  done : ∀ K (s : Shared) (Q : Value → Shared → Prop) (E : Value → Shared → Prop), J xs.length K s.heap → InH K s.heap → (∀ b ∈ W, K b = none) →
    (∀ K' s' e, Stp W K s K' s' → (∃ o, s'.heap.get? e = some o ∧ o.cls = .type "StopIteration") → E (.ref e) s') → wpAny (model prog w) A (Builtin.SmallTypes.nextOf (.ref i1)) Q E s

abbrev ZipAt (h : Heap) (z TI TO : Addr) (f0 f1 : Value) : Prop := h.get? z = some { cls := .type "zip", dict := none, data := .fields #[f0, f1, .bool false, .ref TI, .ref TO], slots := #[] }
theorem loadIf {M : Model} {A : Around} {E : Value → Shared → Prop} {s : Shared} {a : Addr} {Q : Option Obj → Shared → Prop} (h : Q (s.heap.get? a) s) : wpAny M A (loadIfAlive a) Q E s := fun _ _ _ => h
def pairV (p : D × D) : D := .tuple [p.1, p.2]
section
variable {prog : Program} {w : World}
/-- a zip's state ahead of round k -/
structure ZSt (prog : Program) (w : World) (z TI TO i1 i2 : Addr) (J : Nat → KM → Heap → Prop) (k : Nat) (K : KM) (h : Heap) : Prop where
  zip : (ZipAt h z TI TO .none (.bool false)) ∨ ∃ T b o, ZipAt h z TI TO (rawInt (T : Nat)) (.bool b) ∧ K T = some o ∧ InH K h
  ti : IsPair h TI (.ref i1) (.ref i2)
  to : ∃ a b, IsPair h TO a b
  src : J k K h
theorem stp_one {W : List Addr} {K : KM} {s : Shared} {a : Addr} {h' : Heap} (tk : Nat) (hK : InH K s.heap) (hW : ∀ b ∈ W, K b = none) (ha : a ∈ W) (hs : Heap.SameBut a s.heap h') : Stp W K s K { s with heap := h', toks := tk } :=
  .mk' hK hW fun b o hb e => (hs.2 b (fun h => hb (h ▸ ha))).trans e
theorem ZSt.zip_alive {z TI TO i1 i2 : Addr} {J : Nat → KM → Heap → Prop} {k : Nat} {K : KM} {h : Heap} (st : ZSt prog w z TI TO i1 i2 J k K h) {T : Nat} {f1 : Value} (hz : ZipAt h z TI TO (rawInt (T : Nat)) f1) : ∃ o, h.get? T = some o := by
  rcases st.zip with e | ⟨T', b, o, e, e2, e3⟩
  · have e' : h.get? z = _ := e
    rw [show h.get? z = _ from hz] at e'
    simp [rawInt] at e'
  · have e' : h.get? z = _ := e
    rw [show h.get? z = _ from hz] at e'
    simp [rawInt] at e'
    obtain ⟨e1, _⟩ := e'
    have e1' : T = T' := Int.ofNat.inj e1
    subst e1'
    exact ⟨o, e3 _ _ e2⟩
/-- a zip whose last tuple lives draws anew -/
theorem zip_notfree {A : Around} {z TI TO : Addr} {T : Nat} {fb : Bool} {W : List Addr} {K : KM} {s : Shared} {Q : Bool → Shared → Prop} {E : Value → Shared → Prop} (hz : ZipAt s.heap z TI TO (rawInt (T : Nat)) (.bool fb)) (hT : ∃ o, s.heap.get? T = some o) (hK : InH K s.heap) (mz : z ∈ W) (hW : ∀ b ∈ W, K b = none)
    (q : ∀ s' f1, ZipAt s'.heap z TI TO (rawInt (T : Nat)) (.bool f1) → Stp W K s K s' → (∀ b o, b ≠ z → s.heap.get? b = some o → s'.heap.get? b = some o) → Q false s') : wpAny (model prog w) A (Builtin.SmallTypes.ownedTupleIsFree (.ref z)) Q E s := by
  unfold Builtin.SmallTypes.ownedTupleIsFree
  refine wpAny_bind (wpAny_field hz rfl (x := rawInt (T : Nat)) rfl ?_)
  show wpAny _ _ (loadIfAlive ((T : Int).toNat) >>= _) _ _ _
  obtain ⟨oT, hoT⟩ := hT
  refine wpAny_bind (loadIf ?_)
  rw [show ((T : Int).toNat) = T from rfl, hoT]
  show wpAny _ _ (field (.ref z) 1 >>= _) _ _ _
  refine wpAny_bind (wpAny_field hz rfl (x := .bool fb) rfl ?_)
  cases fb with
  | true => exact wpAny_pure (q s true hz (.refl hK hW) fun b o _ e => e)
  | false =>
    show wpAny _ _ (setField (.ref z) 1 (.bool true) >>= _) _ _ _
    refine wpAny_bind (wpAny_setField_rec hz (by simp) fun h1 hz1 hs1 => wpAny_pure ?_)
    exact q { s with heap := h1 } true hz1 (stp_one s.toks hK hW mz hs1) fun b o hb e => (hs1.2 b hb).trans e
theorem zip_it {A : Around} {z TI TO i1 i2 : Addr} {W : List Addr} {xs : List (D × D)} {J Jm : Nat → KM → Heap → Prop} (hh : A.handled = none) (S : Srcs prog w A.in1 i1 i2 W xs J Jm) (hzTI : z ≠ TI) (hzTO : z ≠ TO) (hTT : TI ≠ TO) (hz : z ∉ W) (hTI : TI ∉ W) (hTO : TO ∉ W) :
    It prog w A tgt0 z (z :: TI :: TO :: W) (xs.map pairV) (ZSt prog w z TI TO i1 i2 J) where
  live := fun k K h st b hb => by
    rcases List.mem_cons.mp hb with rfl | hb
    · rcases st.zip with e | ⟨_, _, _, e, _⟩ <;> exact ⟨_, e⟩
    rcases List.mem_cons.mp hb with rfl | hb
    · exact ⟨_, st.ti⟩
    rcases List.mem_cons.mp hb with rfl | hb
    · obtain ⟨_, _, e⟩ := st.to; exact ⟨_, e⟩
    exact S.live k K h st.src b hb
  frame := fun k K K' h h' st hs hK' hk => by
    refine ⟨?_, hk TI (by simp) _ st.ti, ?_, S.frame k K K' h h' st.src hs hK' fun b hb o e => hk b (by simp [hb]) o e⟩
    · rcases st.zip with e | ⟨T, b, o, e, e2, e3⟩
      · exact .inl (hk z (by simp) _ e)
      · exact .inr ⟨T, b, o, hk z (by simp) _ e, hs _ _ e2, hK'⟩
    · obtain ⟨a, b, e⟩ := st.to; exact ⟨a, b, hk TO (by simp) _ e⟩
  self := fun k K s Q E st q => by
    have hT : s.TypeIs (.ref z) "zip" := by rcases st.zip with e | ⟨_, _, _, e, _⟩ <;> exact ⟨_, e, rfl⟩
    refine wpAny_pyIter_slot hT PySem.F.slot_zip_iter (wpAny_call_entry PySem.F.slot_zip_iter hT PySem.F.entry_zip_iter ?_ (PySem.F.args_zip_iter_1 _))
    show wpAny _ _ (ret (.ref z)) _ _ s
    exact wpAny_pure ⟨_, rfl, "zip", _, hT, PySem.F.slot_zip_next.lookup, q⟩
  item := fun k d K s Q E hd st hK hW q => by
    rw [List.getElem?_map] at hd
    obtain ⟨p, hp, rfl⟩ := Option.map_eq_some_iff.mp hd
    have hT : s.TypeIs (.ref z) "zip" := by rcases st.zip with e | ⟨_, _, _, e, _⟩ <;> exact ⟨_, e, rfl⟩
    have mz : z ∈ z :: TI :: TO :: W := by simp
    have mTO : TO ∈ z :: TI :: TO :: W := by simp
    have sub : ∀ b ∈ W, b ∈ z :: TI :: TO :: W := fun b hb => by simp [hb]
    have hWW : ∀ {K' : KM} {s' : Shared}, Stp (z :: TI :: TO :: W) K s K' s' → ∀ b ∈ W, K' b = none := fun t b hb => t.out b (sub b hb)
    unfold pyNext
    refine wpAny_bind (wpAny_attempt (wpAny_callSpecial?_slot (name := Str.ofString "__next__") hT PySem.F.slot_zip_next (wpAny_call_entry PySem.F.slot_zip_next hT PySem.F.entry_zip_next ?_ (PySem.F.args_zip_next_1 _))))
    obtain ⟨oa, ob, hTO0⟩ := st.to
    have hTI0 := st.ti
    have up : ∀ {K1 K2 : KM} {s1 s2 : Shared}, Stp W K1 s1 K2 s2 → (∀ b ∈ z :: TI :: TO :: W, K1 b = none ∧ ∃ o, s1.heap.get? b = some o) → Stp (z :: TI :: TO :: W) K1 s1 K2 s2 := fun t l => t.weaken sub l
    rcases st.zip with hz0 | ⟨T, fb, oT, hz0, hKT, _⟩
    · show wpAny _ _ (field (.ref z) 2 >>= _) _ _ _
      refine wpAny_bind (wpAny_field hz0 rfl (x := .bool false) rfl ?_)
      show wpAny _ _ (field (.ref z) 3 >>= _) _ _ _
      refine wpAny_bind (wpAny_field hz0 rfl (x := .ref TI) rfl ?_)
      refine wpAny_bind (wpAny_seqItems hTI0 rfl ?_)
      show wpAny _ _ (Builtin.SmallTypes.ownedTupleIsFree (.ref z) >>= _) _ _ _
      refine wpAny_bind ?_
      unfold Builtin.SmallTypes.ownedTupleIsFree
      refine wpAny_bind (wpAny_field hz0 rfl (x := .none) rfl (wpAny_pure ?_))
      simp only [if_true]
      refine wpAny_bind (wpAny_rule ?_)
      refine wpAny_bind (wpAny_field hz0 rfl (x := .ref TO) rfl ?_)
      refine wpAny_bind (wpAny_setField_rec hz0 (by simp) fun h₁ hz₁ hs₁ => ?_)
      replace hz₁ : ZipAt h₁ z TI TO .ellipsis (.bool false) := hz₁
      have t1 : Stp (z :: TI :: TO :: W) K s K { s with heap := h₁ } := stp_one s.toks hK hW mz hs₁
      have hTI1 : IsPair h₁ TI (.ref i1) (.ref i2) := (hs₁.2 _ hzTI.symm).trans hTI0
      have hTO1 : IsPair h₁ TO oa ob := (hs₁.2 _ hzTO.symm).trans hTO0
      have j1 : J k K h₁ := S.frame _ _ _ _ _ st.src (.refl _) t1.inH fun b hb o e => (hs₁.2 b (fun h => hz (h ▸ hb))).trans e
      refine wpAny_bind ?_
      simp only [List.zipIdx_cons, List.zipIdx_nil, List.forIn_cons, List.forIn_nil]
      refine wpAny_bind (wpAny_bind (wpAny_onRaise ?_))
      show wpAny _ _ (Builtin.SmallTypes.nextOf (.ref i1) >>= _) _ _ _
      refine wpAny_bind (S.first k p K _ _ _ hp j1 t1.inH (hWW t1) fun K2 v1 s2 u2 j2 r1 => wpAny_pure ?_)
      have al1 : ∀ b ∈ z :: TI :: TO :: W, K b = none ∧ ∃ o, h₁.get? b = some o := fun b hb => ⟨hW b hb, by
        rcases List.mem_cons.mp hb with rfl | hb
        · exact ⟨_, hz₁⟩
        rcases List.mem_cons.mp hb with rfl | hb
        · exact ⟨_, hTI1⟩
        rcases List.mem_cons.mp hb with rfl | hb
        · exact ⟨_, hTO1⟩
        exact S.live k K _ j1 b hb⟩
      have t2 := t1.trans (up u2 al1)
      have hz₂ : ZipAt s2.heap z TI TO .ellipsis (.bool false) := u2.kept z _ hz hz₁
      have hTI2 : IsPair s2.heap TI (.ref i1) (.ref i2) := u2.kept _ _ hTI hTI1
      have hTO2 : IsPair s2.heap TO oa ob := u2.kept _ _ hTO hTO1
      refine wpAny_bind (wpAny_seqItems hTO2 rfl ?_)
      refine wpAny_bind (wpAny_updateSeq_pair hTO2 fun h₃ hTO3 hs₃ => ?_)
      replace hTO3 : IsPair h₃ TO v1 ob := hTO3
      have u3 : Stp (z :: TI :: TO :: W) K2 s2 K2 { s2 with heap := h₃ } := stp_one s2.toks t2.inH t2.out mTO hs₃
      have t3 := t2.trans u3
      refine wpAny_bind (wpAny_letGo (wpAny_pure ?_))
      have j3 : Jm k K2 h₃ := S.frameM _ _ _ _ _ j2 (.refl _) u3.inH fun b hb o e => (hs₃.2 b (fun h => hTO (h ▸ hb))).trans e
      have hz₃ : ZipAt h₃ z TI TO .ellipsis (.bool false) := (hs₃.2 _ hzTO).trans hz₂
      have hTI3 : IsPair h₃ TI (.ref i1) (.ref i2) := (hs₃.2 _ hTT).trans hTI2
      refine wpAny_bind (wpAny_bind (wpAny_onRaise ?_))
      show wpAny _ _ (Builtin.SmallTypes.nextOf (.ref i2) >>= _) _ _ _
      refine wpAny_bind (S.second k p K2 _ _ _ hp j3 u3.inH (hWW t3) fun K4 v2 s4 u4 j4 r2 => wpAny_pure ?_)
      have al3 : ∀ b ∈ z :: TI :: TO :: W, K2 b = none ∧ ∃ o, h₃.get? b = some o := fun b hb => ⟨t3.out b hb, by
        rcases List.mem_cons.mp hb with rfl | hb
        · exact ⟨_, hz₃⟩
        rcases List.mem_cons.mp hb with rfl | hb
        · exact ⟨_, hTI3⟩
        rcases List.mem_cons.mp hb with rfl | hb
        · exact ⟨_, hTO3⟩
        exact S.liveM k K2 _ j3 b hb⟩
      have t4 := t3.trans (up u4 al3)
      have hz₄ : ZipAt s4.heap z TI TO .ellipsis (.bool false) := u4.kept z _ hz hz₃
      have hTI4 : IsPair s4.heap TI (.ref i1) (.ref i2) := u4.kept _ _ hTI hTI3
      have hTO4 : IsPair s4.heap TO v1 ob := u4.kept _ _ hTO hTO3
      refine wpAny_bind (wpAny_seqItems hTO4 rfl ?_)
      refine wpAny_bind (wpAny_updateSeq_pair hTO4 fun h₅ hTO5 hs₅ => ?_)
      replace hTO5 : IsPair h₅ TO v1 v2 := hTO5
      refine wpAny_bind (wpAny_letGo (wpAny_pure (wpAny_pure ?_)))
      have u5 : Stp (z :: TI :: TO :: W) K4 s4 K4 { s4 with heap := h₅ } := stp_one s4.toks t4.inH t4.out mTO hs₅
      have t5 := t4.trans u5
      have hz₅ : ZipAt h₅ z TI TO .ellipsis (.bool false) := (hs₅.2 _ hzTO).trans hz₄
      have hTI5 : IsPair h₅ TI (.ref i1) (.ref i2) := (hs₅.2 _ hTT).trans hTI4
      have j5 : J (k + 1) K4 h₅ := S.frame _ _ _ _ _ j4 (.refl _) u5.inH fun b hb o e => (hs₅.2 b (fun h => hTO (h ▸ hb))).trans e
      refine wpAny_bind (wpAny_seqItems hTO5 rfl ?_)
      refine wpAny_bind (wpAny_newTuple ?_)
      show wpAny _ _ (Builtin.SmallTypes.ownedTupleHandOut (.ref z) (.ref h₅.objs.size) >>= _) _ _ _
      refine wpAny_bind ?_
      unfold Builtin.SmallTypes.ownedTupleHandOut
      have fT := get_size h₅
      have hz₆ : ZipAt (h₅.push { cls := .type "tuple", data := .seq #[v1, v2] }) z TI TO .ellipsis (.bool false) := Heap.get?_push_of_some _ hz₅
      refine wpAny_bind (wpAny_setField_rec hz₆ (by simp) fun h₇ hz₇ hs₇ => ?_)
      replace hz₇ : ZipAt h₇ z TI TO (rawInt h₅.objs.size) (.bool false) := hz₇
      refine wpAny_setField_rec hz₇ (by simp) fun h₈ hz₈ hs₈ => ?_
      replace hz₈ : ZipAt h₈ z TI TO (rawInt h₅.objs.size) (.bool false) := hz₈
      have hzT : h₅.objs.size ≠ z := Nat.ne_of_gt (Heap.lt_size hz₅)
      have up8 : ∀ c o, c ≠ z → h₅.get? c = some o → h₈.get? c = some o := fun c o c1 e => hs₈.extBut _ _ c1 (hs₇.extBut _ _ c1 (Heap.get?_push_of_some _ e))
      have hT8 : h₈.get? h₅.objs.size = some { cls := .type "tuple", data := .seq #[v1, v2] } := hs₈.extBut _ _ hzT (hs₇.extBut _ _ hzT (Heap.get?_push_size _ rfl))
      have hKT : K4 h₅.objs.size = none := none_of_fresh t5.inH fT
      have hTW : h₅.objs.size ∉ z :: TI :: TO :: W := fun h => by
        rcases List.mem_cons.mp h with h | h
        · exact hzT h
        rcases List.mem_cons.mp h with h | h
        · rw [h] at fT
          have hTI5' : h₅.get? TI = _ := hTI5
          rw [hTI5'] at fT; cases fT
        rcases List.mem_cons.mp h with h | h
        · rw [h] at fT
          have hTO5' : h₅.get? TO = _ := hTO5
          rw [hTO5'] at fT; cases fT
        obtain ⟨o, e⟩ := S.live _ _ _ j5 _ h
        rw [fT] at e; cases e
      have u8 : Stp (z :: TI :: TO :: W) K4 { s4 with heap := h₅ } (K4.set h₅.objs.size { cls := .type "tuple", data := .seq #[v1, v2] }) { s4 with heap := h₈ } := by
        refine ⟨⟨_, _, rfl⟩, fun b o hb e => up8 b o (fun h => hb (h ▸ mz)) e, KM.sub_set hKT, KM.in_set (fun b o e => ?_) hT8, fun b o e1 e2 => ?_, fun b hb => ?_⟩
        · exact up8 b o (fun h => by rw [h, t5.out z mz] at e; cases e) (t5.inH b o e)
        · by_cases hb : b = h₅.objs.size
          · subst hb; exact fT
          · simp [KM.set, hb] at e1; rw [e1] at e2; cases e2
        · have : b ≠ h₅.objs.size := fun h => hTW (h ▸ hb)
          simp [KM.set, this]; exact t5.out b hb
      refine wpAny_pure ⟨_, rfl, wpAny_pure ⟨_, rfl, ?_⟩⟩
      show wpAny _ _ (pure ()) _ _ _
      refine wpAny_pure (q _ _ _ (t5.trans u8) ⟨.inr ⟨_, _, _, hz₈, KM.set_self _ _ _, u8.inH⟩, up8 _ _ hzTI.symm hTI5, ⟨_, _, up8 _ _ hzTO.symm hTO5⟩, S.frame _ _ _ _ _ j5 (KM.sub_set hKT) u8.inH fun b hb o e => up8 b o (fun h => hz (h ▸ hb)) e⟩ ?_)
      refine .tuple (vs := [v1, v2]) (KM.set_self _ _ _) rfl rfl (.cons (r1.mono (u4.sub.trans (KM.sub_set hKT))) (.cons (r2.mono (KM.sub_set hKT)) .nil)) ?_
      show (2 : Nat) ≤ 4096; omega
    · show wpAny _ _ (field (.ref z) 2 >>= _) _ _ _
      refine wpAny_bind (wpAny_field hz0 rfl (x := .bool false) rfl ?_)
      show wpAny _ _ (field (.ref z) 3 >>= _) _ _ _
      refine wpAny_bind (wpAny_field hz0 rfl (x := .ref TI) rfl ?_)
      refine wpAny_bind (wpAny_seqItems hTI0 rfl ?_)
      show wpAny _ _ (Builtin.SmallTypes.ownedTupleIsFree (.ref z) >>= _) _ _ _
      refine wpAny_bind (zip_notfree hz0 (st.zip_alive hz0) hK mz hW fun s0 f1 hz1 t1 hk0 => ?_)
      rw [if_neg (by decide)]
      have hTI1 : IsPair s0.heap TI (.ref i1) (.ref i2) := hk0 TI _ hzTI.symm hTI0
      have hTO1 : IsPair s0.heap TO oa ob := hk0 TO _ hzTO.symm hTO0
      have j1 : J k K s0.heap := S.frame _ _ _ _ _ st.src (.refl _) t1.inH fun b hb o e => hk0 b o (fun h => hz (h ▸ hb)) e
      have al1 : ∀ b ∈ z :: TI :: TO :: W, K b = none ∧ ∃ o, s0.heap.get? b = some o := fun b hb => ⟨hW b hb, by
        rcases List.mem_cons.mp hb with rfl | hb
        · exact ⟨_, hz1⟩
        rcases List.mem_cons.mp hb with rfl | hb
        · exact ⟨_, hTI1⟩
        rcases List.mem_cons.mp hb with rfl | hb
        · exact ⟨_, hTO1⟩
        exact S.live k K _ j1 b hb⟩
      dsimp only
      refine wpAny_bind ?_
      rw [List.forIn_toArray]
      simp only [List.forIn_cons, List.forIn_nil]
      refine wpAny_bind (wpAny_bind (wpAny_holding ?_))
      show wpAny _ _ (Builtin.SmallTypes.nextOf (.ref i1) >>= _) _ _ _
      refine wpAny_bind (S.first k p K _ _ _ hp j1 t1.inH (hWW t1) fun K2 v1 s2 u2 j2 r1 => wpAny_pure (wpAny_pure ?_))
      have t2 := t1.trans (up u2 al1)
      refine wpAny_bind (wpAny_bind (wpAny_holding ?_))
      show wpAny _ _ (Builtin.SmallTypes.nextOf (.ref i2) >>= _) _ _ _
      refine wpAny_bind (S.second k p K2 _ _ _ hp j2 u2.inH (hWW t2) fun K4 v2 s4 u4 j4 r2 => wpAny_pure (wpAny_pure (wpAny_pure ?_)))
      have hz2 : ZipAt s2.heap z TI TO (rawInt (T : Nat)) (.bool f1) := u2.kept z _ hz hz1
      have hTI2 : IsPair s2.heap TI (.ref i1) (.ref i2) := u2.kept _ _ hTI hTI1
      have hTO2 : IsPair s2.heap TO oa ob := u2.kept _ _ hTO hTO1
      have al2 : ∀ b ∈ z :: TI :: TO :: W, K2 b = none ∧ ∃ o, s2.heap.get? b = some o := fun b hb => ⟨t2.out b hb, by
        rcases List.mem_cons.mp hb with rfl | hb
        · exact ⟨_, hz2⟩
        rcases List.mem_cons.mp hb with rfl | hb
        · exact ⟨_, hTI2⟩
        rcases List.mem_cons.mp hb with rfl | hb
        · exact ⟨_, hTO2⟩
        exact S.liveM k K2 _ j2 b hb⟩
      have t4 := t2.trans (up u4 al2)
      have hz4 : ZipAt s4.heap z TI TO (rawInt (T : Nat)) (.bool f1) := u4.kept z _ hz hz2
      have hTI4 : IsPair s4.heap TI (.ref i1) (.ref i2) := u4.kept _ _ hTI hTI2
      have hTO4 : IsPair s4.heap TO oa ob := u4.kept _ _ hTO hTO2
      have fT := get_size s4.heap
      have hKT4 : K4 s4.heap.objs.size = none := none_of_fresh t4.inH fT
      have up8 : ∀ c o, s4.heap.get? c = some o → (s4.heap.push { cls := .type "tuple", data := .seq #[v1, v2] }).get? c = some o := fun c o e => Heap.get?_push_of_some _ e
      have hTW : s4.heap.objs.size ∉ z :: TI :: TO :: W := fun h => by
        rcases List.mem_cons.mp h with h | h
        · rw [h] at fT; rw [show s4.heap.get? z = _ from hz4] at fT; cases fT
        rcases List.mem_cons.mp h with h | h
        · rw [h] at fT; rw [show s4.heap.get? TI = _ from hTI4] at fT; cases fT
        rcases List.mem_cons.mp h with h | h
        · rw [h] at fT; rw [show s4.heap.get? TO = _ from hTO4] at fT; cases fT
        obtain ⟨o, e⟩ := S.live _ _ _ j4 _ h
        rw [fT] at e; cases e
      refine wpAny_bind (wpAny_newTuple (hsz := by show (2 : Nat) ≤ sizeLine; rw [sizeLine_eq]; omega) ?_)
      have u8 : Stp (z :: TI :: TO :: W) K4 s4 (K4.set s4.heap.objs.size { cls := .type "tuple", data := .seq #[v1, v2] }) { s4 with heap := s4.heap.push { cls := .type "tuple", data := .seq #[v1, v2] } } := by
        refine ⟨⟨_, _, rfl⟩, fun b o hb e => up8 b o e, KM.sub_set hKT4, KM.in_set (fun b o e => up8 b o (t4.inH b o e)) (Heap.get?_push_size _ rfl), fun b o e1 e2 => ?_, fun b hb => ?_⟩
        · by_cases hb : b = s4.heap.objs.size
          · subst hb; exact fT
          · simp [KM.set, hb] at e1; rw [e1] at e2; cases e2
        · have : b ≠ s4.heap.objs.size := fun h => hTW (h ▸ hb)
          simp [KM.set, this]; exact t4.out b hb
      refine wpAny_pure ⟨_, rfl, wpAny_pure ?_⟩
      refine ⟨_, rfl, ?_⟩
      show wpAny _ _ (pure ()) _ _ _
      have hKT' : K4.set s4.heap.objs.size { cls := .type "tuple", data := .seq #[v1, v2] } T = some oT := by
        have : T ≠ s4.heap.objs.size := fun h => by
          have := u4.sub _ _ (u2.sub _ _ hKT)
          rw [h, hKT4] at this; cases this
        simp [KM.set, this]; exact u4.sub _ _ (u2.sub _ _ hKT)
      refine wpAny_pure (q _ _ _ (t4.trans u8) ⟨.inr ⟨T, f1, oT, up8 _ _ hz4, hKT', u8.inH⟩, up8 _ _ hTI4, ⟨_, _, up8 _ _ hTO4⟩, S.frame _ _ _ _ _ j4 (KM.sub_set hKT4) u8.inH fun b hb o e => up8 b o e⟩ ?_)
      refine .tuple (vs := [v1, v2]) (KM.set_self _ _ _) rfl rfl (.cons (r1.mono (u4.sub.trans (KM.sub_set hKT4))) (.cons (r2.mono (KM.sub_set hKT4)) .nil)) ?_
      show (2 : Nat) ≤ 4096; omega
  done := fun K s Q E st hK hW q => by
    rw [List.length_map] at st
    have hT : s.TypeIs (.ref z) "zip" := by rcases st.zip with e | ⟨_, _, _, e, _⟩ <;> exact ⟨_, e, rfl⟩
    have mz : z ∈ z :: TI :: TO :: W := by simp
    have sub : ∀ b ∈ W, b ∈ z :: TI :: TO :: W := fun b hb => by simp [hb]
    obtain ⟨oa, ob, hTO0⟩ := st.to
    have hTI0 := st.ti
    unfold pyNext
    refine wpAny_bind (wpAny_attempt (wpAny_callSpecial?_slot (name := Str.ofString "__next__") hT PySem.F.slot_zip_next (wpAny_call_entry PySem.F.slot_zip_next hT PySem.F.entry_zip_next ?_ (PySem.F.args_zip_next_1 _))))
    have fin : ∀ (K' : KM) (s' : Shared) e, Stp (z :: TI :: TO :: W) K s K' s' → (∃ o, s'.heap.get? e = some o ∧ o.cls = .type "StopIteration") → wpAny (model prog w) A (do
        let x ← isInstance (.ref e) (.type "StopIteration")
        if x = true then pure none else throw (.ref e)) Q E s' := fun K' s' e t he => by
      obtain ⟨o, ho, hc⟩ := he
      refine wpAny_bind (wpAny_isInstance (T := "StopIteration") (b := true) ⟨o, ho, hc⟩ isSubtype_stop ?_)
      refine wpAny_pure (q s' ⟨t.same, t.kept, .refl K, fun b o e => t.inH b o (t.sub b o e), fun b o e1 e2 => (by rw [e1] at e2; cases e2), hW⟩)
    rcases st.zip with hz0 | ⟨T, fb, oT, hz0, hKT, _⟩
    · show wpAny _ _ (field (.ref z) 2 >>= _) _ _ _
      refine wpAny_bind (wpAny_field hz0 rfl (x := .bool false) rfl ?_)
      show wpAny _ _ (field (.ref z) 3 >>= _) _ _ _
      refine wpAny_bind (wpAny_field hz0 rfl (x := .ref TI) rfl ?_)
      refine wpAny_bind (wpAny_seqItems hTI0 rfl ?_)
      show wpAny _ _ (Builtin.SmallTypes.ownedTupleIsFree (.ref z) >>= _) _ _ _
      refine wpAny_bind ?_
      unfold Builtin.SmallTypes.ownedTupleIsFree
      refine wpAny_bind (wpAny_field hz0 rfl (x := .none) rfl (wpAny_pure ?_))
      simp only [if_true]
      refine wpAny_bind (wpAny_rule ?_)
      refine wpAny_bind (wpAny_field hz0 rfl (x := .ref TO) rfl ?_)
      refine wpAny_bind (wpAny_setField_rec hz0 (by simp) fun h₁ hz₁ hs₁ => ?_)
      replace hz₁ : ZipAt h₁ z TI TO .ellipsis (.bool false) := hz₁
      have t1 : Stp (z :: TI :: TO :: W) K s K { s with heap := h₁ } := stp_one s.toks hK hW mz hs₁
      have j1 : J xs.length K h₁ := S.frame _ _ _ _ _ st.src (.refl _) t1.inH fun b hb o e => (hs₁.2 b (fun h => hz (h ▸ hb))).trans e
      refine wpAny_bind ?_
      simp only [List.zipIdx_cons, List.zipIdx_nil, List.forIn_cons, List.forIn_nil]
      refine wpAny_bind (wpAny_bind (wpAny_onRaise ?_))
      show wpAny _ _ (Builtin.SmallTypes.nextOf (.ref i1) >>= _) _ _ _
      refine wpAny_bind (S.done K _ _ _ j1 t1.inH (fun b hb => hW b (sub b hb)) fun K2 s2 e u2 he => ?_)
      have hz2 : ZipAt s2.heap z TI TO .ellipsis (.bool false) := u2.kept z _ hz hz₁
      obtain ⟨oe, hoe, hce⟩ := he
      have hez : e ≠ z := fun x => by subst x; rw [show s2.heap.get? e = _ from hz2] at hoe; cases hoe; simp at hce
      have al1 : ∀ b ∈ z :: TI :: TO :: W, K b = none ∧ ∃ o, h₁.get? b = some o := fun b hb => ⟨hW b hb, by
        rcases List.mem_cons.mp hb with rfl | hb
        · exact ⟨_, hz₁⟩
        rcases List.mem_cons.mp hb with rfl | hb
        · exact ⟨_, (hs₁.2 _ hzTI.symm).trans hTI0⟩
        rcases List.mem_cons.mp hb with rfl | hb
        · exact ⟨_, (hs₁.2 _ hzTO.symm).trans hTO0⟩
        exact S.live _ K _ j1 b hb⟩
      have t2 := t1.trans (u2.weaken sub al1)
      refine wpAny_setField_rec hz2 (by simp) fun h3 hz3 hs3 => ?_
      exact fin K2 _ e (t2.trans (stp_one s2.toks t2.inH t2.out mz hs3)) ⟨oe, (hs3.2 e hez).trans hoe, hce⟩
    · show wpAny _ _ (field (.ref z) 2 >>= _) _ _ _
      refine wpAny_bind (wpAny_field hz0 rfl (x := .bool false) rfl ?_)
      show wpAny _ _ (field (.ref z) 3 >>= _) _ _ _
      refine wpAny_bind (wpAny_field hz0 rfl (x := .ref TI) rfl ?_)
      refine wpAny_bind (wpAny_seqItems hTI0 rfl ?_)
      show wpAny _ _ (Builtin.SmallTypes.ownedTupleIsFree (.ref z) >>= _) _ _ _
      refine wpAny_bind (zip_notfree hz0 (st.zip_alive hz0) hK mz hW fun s0 f1 hz1 t1 hk0 => ?_)
      rw [if_neg (by decide)]
      have j1 : J xs.length K s0.heap := S.frame _ _ _ _ _ st.src (.refl _) t1.inH fun b hb o e => hk0 b o (fun h => hz (h ▸ hb)) e
      dsimp only
      refine wpAny_bind ?_
      rw [List.forIn_toArray]
      simp only [List.forIn_cons, List.forIn_nil]
      refine wpAny_bind (wpAny_bind (wpAny_holding ?_))
      show wpAny _ _ (Builtin.SmallTypes.nextOf (.ref i1) >>= _) _ _ _
      have al1 : ∀ b ∈ z :: TI :: TO :: W, K b = none ∧ ∃ o, s0.heap.get? b = some o := fun b hb => ⟨hW b hb, by
        rcases List.mem_cons.mp hb with rfl | hb
        · exact ⟨_, hz1⟩
        rcases List.mem_cons.mp hb with rfl | hb
        · exact ⟨_, hk0 _ _ hzTI.symm hTI0⟩
        rcases List.mem_cons.mp hb with rfl | hb
        · exact ⟨_, hk0 _ _ hzTO.symm hTO0⟩
        exact S.live _ K _ j1 b hb⟩
      refine wpAny_bind (S.done K _ _ _ j1 t1.inH (fun b hb => hW b (sub b hb)) fun K2 s2 e u2 he => ?_)
      exact fin K2 s2 e (t1.trans (u2.weaken sub al1)) he
end
end Mine
namespace Mine
/-! ## map: facts of its type -/
theorem owner_map : Manifest.owners.lookup (String.ofList ['p', 'a', 'm'].reverse) = some Manifest.sig_map := by kernel_rfl
theorem slot_map_init : Slot "map" "__init__" "object.__init__" :=
  .of (owner := "object") (n := "__init__") (by rw [typeLookup_type, builtinLookup_eq_fast]; kernel_rfl) (by decide +kernel) (by decide +kernel) (by decide +kernel)
    (by first | exact .inl (by decide +kernel) | exact .inr (by decide +kernel)) (by rw [isSubtype_type]; kernel_rfl)
theorem slot_map_iter : Slot "map" "__iter__" "map.__iter__" :=
  .of (owner := "map") (n := "__iter__") (by rw [typeLookup_type, builtinLookup_eq_fast]; kernel_rfl) (by decide +kernel) (by decide +kernel) (by decide +kernel)
    (by first | exact .inl (by decide +kernel) | exact .inr (by decide +kernel)) (by rw [isSubtype_type]; kernel_rfl)
theorem slot_map_next : Slot "map" "__next__" "map.__next__" :=
  .of (owner := "map") (n := "__next__") (by rw [typeLookup_type, builtinLookup_eq_fast]; kernel_rfl) (by decide +kernel) (by decide +kernel) (by decide +kernel)
    (by first | exact .inl (by decide +kernel) | exact .inr (by decide +kernel)) (by rw [isSubtype_type]; kernel_rfl)
theorem args_map_iter_1 (a : Value) : argsOk "map.__iter__" ⟨[a], []⟩ := by
  unfold argsOk; rw [signature?_of (id := "map.__iter__") (n := ['_', '_', 'r', 'e', 't', 'i', '_', '_']) (o := ['p', 'a', 'm']) (by kernel_rfl) owner_map]; kernel_rfl
theorem args_map_next_1 (a : Value) : argsOk "map.__next__" ⟨[a], []⟩ := by
  unfold argsOk; rw [signature?_of (id := "map.__next__") (n := ['_', '_', 't', 'x', 'e', 'n', '_', '_']) (o := ['p', 'a', 'm']) (by kernel_rfl) owner_map]; kernel_rfl
theorem entry_map_iter : entryFor table "map.__iter__" = some Builtin.«dict_keyiterator.__iter__» :=
  entryFor_alias (id' := "dict_keyiterator.__iter__") (by rw [fastTable_eq_tree]; kernel_rfl) (by first | rfl | decide +kernel | (unfold String.splitOn; simp +decide [String.splitOnAux])) (by decide +kernel) (by rw [fastTable_eq_tree]; kernel_rfl)
theorem entry_map_next : entryFor table "map.__next__" = some Builtin.«map.__next__» := entryFor_of_tree (by kernel_rfl)
theorem entry_map_new : entryFor table "map.__new__" = some Builtin.«map.__new__» := entryFor_of_tree (by kernel_rfl)
theorem mro_map : mroOf (.type "map") = pure [.type "map", .type "object"] := by rw [mroOf_type]; kernel_rfl
theorem lookup_map_new : typeLookup (.type "map") "__new__" = pure (some (.builtin "map.__new__")) := by rw [typeLookup_type, builtinLookup_eq_fast]; kernel_rfl
theorem sub_map : isSubtype (.type "map") (.type "map") = pure true := by rw [isSubtype_type]; kernel_rfl
theorem called_map : TypeCalled "map" "map.__new__" "object.__init__" :=
  ⟨by decide +kernel, by decide +kernel, ⟨_, _, mro_map⟩, madeBy_type mro_map lookup_map_new (by decide +kernel), by decide +kernel, by rw [isSubtype_type]; kernel_rfl, slot_map_init⟩
theorem typeCall_map_2 (a b : Value) : checkTypeCall "map" ⟨[a, b], []⟩ = pure () := by kernel_rfl
theorem newCall_map_2 (a b : Value) : checkBuiltinCall "map.__new__" ⟨[.type "map", a, b], []⟩ = pure () := by kernel_rfl

/-! ## making a zip, a map -/
def zH1 (h : Heap) (i1 i2 : Value) : Heap := h.push { cls := .type "tuple", data := .seq #[i1, i2] }
def zH2 (h : Heap) (i1 i2 : Value) : Heap := (zH1 h i1 i2).push { cls := .type "tuple", data := .seq #[.none, .none] }
def zH3 (h : Heap) (i1 i2 : Value) : Heap := (zH2 h i1 i2).push { cls := .type "zip", data := .fields #[.none, .bool false, .bool false, .ref h.objs.size, .ref (zH1 h i1 i2).objs.size] }
section
variable {prog : Program} {w : World}
theorem meets_zip (x1 x2 : Value) : MeetsIn prog w (Builtin.«zip.__new__» ⟨[.type "zip", x1, x2], []⟩) (fun A R s =>
    wpAny (model prog w) A.in1 (pyIter x1) (fun i1 s1 => wpAny (model prog w) A.in1 (pyIter x2) (fun i2 s2 => R (.ok (.ret (.ref (zH2 s2.heap i1 i2).objs.size))) { s2 with heap := zH3 s2.heap i1 i2 }) (fun e s' => R (.error e) s') s1) (fun e s' => R (.error e) s') s) :=
  .of_wp fun A R s h => by
    have hsub := sub_zip
    unfold Builtin.«zip.__new__»
    repeat (any_goals (first | assumption | (with_reducible refine wpAny_mono h ?_ fun _ _ x => x) | wp_step))
    intro i1 s1 h1
    repeat (any_goals (first | assumption | (with_reducible refine wpAny_mono h1 ?_ fun _ _ x => x) | wp_step))
    intro i2 s2 h2
    repeat (any_goals (first | assumption | wp_step))
    exact ⟨_, rfl, h2⟩

abbrev MapAt (h : Heap) (m TI fa : Addr) : Prop := h.get? m = some { cls := .type "map", dict := none, data := .fields #[.ref TI, .ref fa], slots := #[] }
theorem meets_map (f x : Value) : MeetsIn prog w (Builtin.«map.__new__» ⟨[.type "map", f, x], []⟩) (fun A R s =>
    wpAny (model prog w) A.in1 (pyIter x) (fun i s1 => R (.ok (.ret (.ref (s1.heap.push { cls := .type "tuple", data := .seq #[i] }).objs.size))) { s1 with heap := (s1.heap.push { cls := .type "tuple", data := .seq #[i] }).push { cls := .type "map", data := .fields #[.ref s1.heap.objs.size, f] } }) (fun e s' => R (.error e) s') s) :=
  .of_wp fun A R s h => by
    have hsub := sub_map
    unfold Builtin.«map.__new__»
    repeat (any_goals (first | assumption | (with_reducible refine wpAny_mono h ?_ fun _ _ x => x) | wp_step))
    intro i1 s1 h1
    repeat (any_goals (first | assumption | wp_step))
    exact ⟨_, rfl, h1⟩
theorem call_zip {A : Around} {E : Value → Shared → Prop} {s : Shared} {x1 x2 : Value} {Q : Value → Shared → Prop}
    (h : wpAny (model prog w) A.in1.in1 (pyIter x1) (fun i1 s1 => wpAny (model prog w) A.in1.in1 (pyIter x2) (fun i2 s2 =>
      ∀ h' z TI TO, ZipAt h' z TI TO .none (.bool false) → h'.get? TI = some { cls := .type "tuple", data := .seq #[i1, i2] } → IsPair h' TO .none .none → s2.heap.get? z = none → s2.heap.get? TI = none → s2.heap.get? TO = none → z ≠ TI → z ≠ TO → TI ≠ TO → (∀ b o, s2.heap.get? b = some o → h'.get? b = some o) → Q (.ref z) { s2 with heap := h' }) E s1) E s) :
    wpAny (model prog w) A (call (.type "zip") [x1, x2]) Q E s := by
  refine callType_newIn PySem.F.called_zip (by decide) (PySem.F.typeCall_zip_2 _ _) (PySem.F.newCall_zip_2 _ _) (fun obj => PySem.F.args_object_init_3 obj _ _) PySem.F.entry_zip_new (meets_zip x1 x2) ?_
  refine wpAny_mono h (fun i1 s1 h1 => wpAny_mono h1 (fun i2 s2 h2 => ?_) fun _ _ x => x) fun _ _ x => x
  have z1 : (zH1 s2.heap i1 i2).objs.size = s2.heap.objs.size + 1 := Heap.size_push ..
  have z2 : (zH2 s2.heap i1 i2).objs.size = s2.heap.objs.size + 2 := by unfold zH2; rw [Heap.size_push, z1]
  have g3 : (zH3 s2.heap i1 i2).get? (zH2 s2.heap i1 i2).objs.size = some _ := Heap.get?_push_size _ rfl
  have g2 : (zH3 s2.heap i1 i2).get? (zH1 s2.heap i1 i2).objs.size = some _ := Heap.get?_push_of_some _ (Heap.get?_push_size _ rfl)
  have g1 : (zH3 s2.heap i1 i2).get? s2.heap.objs.size = some _ := Heap.get?_push_of_some _ (Heap.get?_push_of_some _ (Heap.get?_push_size _ rfl))
  have f0 : s2.heap.get? s2.heap.objs.size = none := get_size _
  have f1 : s2.heap.get? (zH1 s2.heap i1 i2).objs.size = none := none_ge (by rw [z1]; exact Nat.le_succ _)
  have f2 : s2.heap.get? (zH2 s2.heap i1 i2).objs.size = none := none_ge (by rw [z2]; exact Nat.le_add_right _ _)
  have d1 : (zH2 s2.heap i1 i2).objs.size ≠ s2.heap.objs.size := by rw [z2]; exact Nat.ne_of_gt (Nat.lt_add_of_pos_right (by decide))
  have d2 : (zH2 s2.heap i1 i2).objs.size ≠ (zH1 s2.heap i1 i2).objs.size := by rw [z1, z2]; exact Nat.ne_of_gt (Nat.lt_succ_self _)
  have d3 : s2.heap.objs.size ≠ (zH1 s2.heap i1 i2).objs.size := by rw [z1]; exact Nat.ne_of_lt (Nat.lt_succ_self _)
  exact ⟨⟨_, g3, rfl⟩, h2 _ _ _ _ g3 g1 g2 f2 f0 f1 d1 d2 d3 fun b o e => Heap.get?_push_of_some _ (Heap.get?_push_of_some _ (Heap.get?_push_of_some _ e))⟩
theorem call_map {A : Around} {E : Value → Shared → Prop} {s : Shared} {x : Value} {fa : Addr} {Q : Value → Shared → Prop}
    (h : wpAny (model prog w) A.in1.in1 (pyIter x) (fun i s1 => ∀ h' m TI, MapAt h' m TI fa → h'.get? TI = some { cls := .type "tuple", data := .seq #[i] } → s1.heap.get? m = none → s1.heap.get? TI = none → m ≠ TI → (∀ b o, s1.heap.get? b = some o → h'.get? b = some o) → Q (.ref m) { s1 with heap := h' }) E s) :
    wpAny (model prog w) A (call (.type "map") [.ref fa, x]) Q E s := by
  refine callType_newIn called_map (by decide) (typeCall_map_2 _ _) (newCall_map_2 _ _) (fun obj => PySem.F.args_object_init_3 obj _ _) entry_map_new (meets_map (.ref fa) x) ?_
  refine wpAny_mono h (fun i s1 h1 => ?_) fun _ _ x => x
  have z1 : (s1.heap.push { cls := .type "tuple", data := .seq #[i] }).objs.size = s1.heap.objs.size + 1 := Heap.size_push ..
  have f1 : s1.heap.get? (s1.heap.push { cls := .type "tuple", data := .seq #[i] }).objs.size = none := none_ge (by rw [z1]; exact Nat.le_succ _)
  exact ⟨⟨_, Heap.get?_push_size _ rfl, rfl⟩, h1 _ _ _ (Heap.get?_push_size _ rfl) (Heap.get?_push_of_some _ (Heap.get?_push_size _ rfl)) f1 (get_size _) (by rw [z1]; exact Nat.ne_of_gt (Nat.lt_succ_self _)) fun b o e => Heap.get?_push_of_some _ (Heap.get?_push_of_some _ e)⟩

/-! ## sources -/
structure Src1 (prog : Program) (w : World) (A : Around) (i : Addr) (W : List Addr) (ds : List D) (J : Nat → KM → Heap → Prop) : Prop where
  live : ∀ k K h, J k K h → ∀ b ∈ W, ∃ o, h.get? b = some o
  frame : ∀ i K K' h h', J i K h → Sub K K' → InH K' h' → (∀ b ∈ W, ∀ o, h.get? b = some o → h'.get? b = some o) → J i K' h'
  item : ∀ k d K (s : Shared) (Q : Value → Shared → Prop) (E : Value → Shared → Prop), ds[k]? = some d → J k K s.heap → InH K s.heap → (∀ b ∈ W, K b = none) →
    (∀ K' v s', Stp W K s K' s' → J (k + 1) K' s'.heap → Rep prog w K' v d → Q v s') → wpAny (model prog w) A (Builtin.SmallTypes.nextOf (.ref i)) Q E s
  done : ∀ K (s : Shared) (Q : Value → Shared → Prop) (E : Value → Shared → Prop), J ds.length K s.heap → InH K s.heap → (∀ b ∈ W, K b = none) →
    (∀ K' s' e, Stp W K s K' s' → (∃ o, s'.heap.get? e = some o ∧ o.cls = .type "StopIteration") → E (.ref e) s') → wpAny (model prog w) A (Builtin.SmallTypes.nextOf (.ref i)) Q E s
theorem Srcs.two {A : Around} {i1 i2 : Addr} {W1 W2 : List Addr} {ds1 ds2 : List D} {J1 J2 : Nat → KM → Heap → Prop} (S1 : Src1 prog w A i1 W1 ds1 J1) (S2 : Src1 prog w A i2 W2 ds2 J2) (hd : ∀ b ∈ W1, b ∉ W2) (hl : ds1.length = ds2.length) :
    Srcs prog w A i1 i2 (W1 ++ W2) (ds1.zip ds2) (fun k K h => J1 k K h ∧ J2 k K h) (fun k K h => J1 (k + 1) K h ∧ J2 k K h) where
  live := fun k K h st b hb => by
    rcases List.mem_append.mp hb with hb | hb
    · exact S1.live k K h st.1 b hb
    · exact S2.live k K h st.2 b hb
  liveM := fun k K h st b hb => by
    rcases List.mem_append.mp hb with hb | hb
    · exact S1.live _ K h st.1 b hb
    · exact S2.live k K h st.2 b hb
  frame := fun k K K' h h' st hs hK hk => ⟨S1.frame k K K' h h' st.1 hs hK fun b hb => hk b (by simp [hb]), S2.frame k K K' h h' st.2 hs hK fun b hb => hk b (by simp [hb])⟩
  frameM := fun k K K' h h' st hs hK hk => ⟨S1.frame _ K K' h h' st.1 hs hK fun b hb => hk b (by simp [hb]), S2.frame k K K' h h' st.2 hs hK fun b hb => hk b (by simp [hb])⟩
  first := fun k p K s Q E hp st hK hW q => by
    rw [show p = (p.1, p.2) from rfl, List.getElem?_zip_eq_some] at hp
    refine S1.item k p.1 K s Q E hp.1 st.1 hK (fun b hb => hW b (by simp [hb])) fun K' v s' t j r => q K' v s' (t.weaken (fun b hb => by simp [hb]) fun b hb => ⟨hW b hb, ?_⟩) ⟨j, S2.frame _ _ _ _ _ st.2 t.sub t.inH fun b hb o e => t.kept b o (fun h => hd b h hb) e⟩ r
    rcases List.mem_append.mp hb with hb | hb
    · exact S1.live k K _ st.1 b hb
    · exact S2.live k K _ st.2 b hb
  second := fun k p K s Q E hp st hK hW q => by
    rw [show p = (p.1, p.2) from rfl, List.getElem?_zip_eq_some] at hp
    refine S2.item k p.2 K s Q E hp.2 st.2 hK (fun b hb => hW b (by simp [hb])) fun K' v s' t j r => q K' v s' (t.weaken (fun b hb => by simp [hb]) fun b hb => ⟨hW b hb, ?_⟩) ⟨S1.frame _ _ _ _ _ st.1 t.sub t.inH fun b hb o e => t.kept b o (fun h => hd b hb h) e, j⟩ r
    rcases List.mem_append.mp hb with hb | hb
    · exact S1.live _ K _ st.1 b hb
    · exact S2.live k K _ st.2 b hb
  done := fun K s Q E st hK hW q => by
    have hlen : (ds1.zip ds2).length = ds1.length := by rw [List.length_zip]; omega
    rw [hlen] at st
    refine S1.done K s Q E st.1 hK (fun b hb => hW b (by simp [hb])) fun K' s' e t he => q K' s' e (t.weaken (fun b hb => by simp [hb]) fun b hb => ⟨hW b hb, ?_⟩) he
    rcases List.mem_append.mp hb with hb | hb
    · exact S1.live _ K _ st.1 b hb
    · exact S2.live _ K _ st.2 b hb
theorem stp_same {K : KM} {s : Shared} {I : Addr} {h' : Heap} (hK : InH K s.heap) (hW : ∀ b ∈ [I], K b = none) (hs : Heap.ExtBut I s.heap h') : Stp [I] K s K { s with heap := h' } :=
  .mk' (tk := s.toks) hK hW fun b o hb e => hs b o (fun h => hb (by simp [h])) e
/-- a list of K, its iterator -/
theorem src_list {A : Around} (hh : A.handled = none) {I a : Addr} {o : Obj} {vs : List Value} {n : Nat} {ds : List D} {K₀ : KM} (h1 : K₀ a = some o) (h2 : o.cls = .type "list") (h3 : o.data = .seq vs.toArray n) (h4 : All prog w K₀ vs ds) (hne : a ≠ I) :
    Src1 prog w A I [I] ds (fun k K h => h.IsListIter I a k ∧ Sub K₀ K ∧ InH K h) where
  live := fun k K h st => in_one (let ⟨⟨o, e, _⟩, _⟩ := st; ⟨o, e⟩)
  frame := fun k K K' h h' st hs hK hk => ⟨st.1.at fun o e => hk I (by simp) o e, st.2.1.trans hs, hK⟩
  item := fun k d K s Q E hd st hK hW q => by
    obtain ⟨v, hv, r⟩ := h4.get hd
    have hl : s.heap.IsList a vs.toArray := ⟨o, hK _ _ (st.2.1 _ _ h1), h2, n, h3⟩
    refine wpAny_nextOf_list_item st.1 hl (x := v) (by simpa using hv) fun h' hit hs => ?_
    have t := stp_same hK hW hs.extBut
    exact q K v _ t ⟨hit, st.2.1, t.inH⟩ (r.mono st.2.1)
  done := fun K s Q E st hK hW q => by
    have hl : s.heap.IsList a vs.toArray := ⟨o, hK _ _ (st.2.1 _ _ h1), h2, n, h3⟩
    refine wpAny_nextOf_list_end hh st.1 hl (by simp [h4.length]) fun h' e hs he => ?_
    exact q K _ e (stp_same hK hW hs) he
/-- the same iterator drawn twice -/
theorem srcs_twice {A : Around} (hh : A.handled = none) {I a : Addr} {o : Obj} {vs : List Value} {n : Nat} {ds : List D} {xs : List (D × D)} {K₀ : KM} (h1 : K₀ a = some o) (h2 : o.cls = .type "list") (h3 : o.data = .seq vs.toArray n) (h4 : All prog w K₀ vs ds) (hne : a ≠ I)
    (hx : ∀ k p, xs[k]? = some p → ds[2 * k]? = some p.1 ∧ ds[2 * k + 1]? = some p.2) (hl : ds.length = 2 * xs.length) :
    Srcs prog w A I I [I] xs (fun k K h => h.IsListIter I a (2 * k) ∧ Sub K₀ K ∧ InH K h) (fun k K h => h.IsListIter I a (2 * k + 1) ∧ Sub K₀ K ∧ InH K h) := by
  have S := src_list (A := A) hh h1 h2 h3 h4 hne
  exact {
    live := fun k => S.live (2 * k)
    liveM := fun k => S.live (2 * k + 1)
    frame := fun k => S.frame (2 * k)
    frameM := fun k => S.frame (2 * k + 1)
    first := fun k p K s Q E hp st hK hW q => S.item (2 * k) p.1 K s Q E (hx k p hp).1 st hK hW q
    second := fun k p K s Q E hp st hK hW q => S.item (2 * k + 1) p.2 K s Q E (hx k p hp).2 st hK hW fun K' v s' t j r => q K' v s' t (by rw [show 2 * (k + 1) = 2 * k + 1 + 1 by omega]; exact j) r
    done := fun K s Q E st hK hW q => S.done K s Q E (by rw [hl]; exact st) hK hW q }
end
end Mine
namespace Mine
section
variable {prog : Program} {w : World}
theorem nextOf_tuple_item {A : Around} {E : Value → Shared → Prop} {s : Shared} {it l : Addr} {i : Nat} {items : Array Value} {x : Value} {Q : Value → Shared → Prop} (hit : s.heap.IsTupleIter it l i) (hl : s.heap.IsTuple l items) (hx : items[i]? = some x)
    (hQ : ∀ h', h'.IsTupleIter it l (i + 1) → Heap.SameBut it s.heap h' → Q x { s with heap := h' }) : wpAny (model prog w) A (Builtin.SmallTypes.nextOf (.ref it)) Q E s := by
  obtain ⟨o, ho, hc, hd⟩ := id hit
  obtain ⟨ol, hol, _, nl, hdl⟩ := hl
  unfold Builtin.SmallTypes.nextOf
  refine wpAny_bind (wpAny_callSpecial?_slot (name := Str.ofString "__next__") hit.typeIs PySem.F.slot_tuple_iterator_next
    (wpAny_call_entry PySem.F.slot_tuple_iterator_next hit.typeIs PySem.F.entry_tuple_iterator_next ?_ (PySem.F.args_tuple_iterator_next_1 _)))
  show wpAny _ _ (field (.ref it) 0 >>= _) _ _ s
  refine wpAny_bind (wpAny_field ho hd (x := .ref l) rfl ?_)
  show wpAny _ _ (if (Value.ref l == Value.none) = true then _ else _) _ _ s
  rw [if_neg (show ¬ ((Value.ref l == Value.none) = true) from Bool.false_ne_true)]
  show wpAny _ _ (field (.ref it) 1 >>= _) _ _ s
  refine wpAny_bind (wpAny_field ho hd (x := .int i 0) rfl ?_)
  show wpAny _ _ (seqItems? (.ref l) >>= _) _ _ s
  refine wpAny_bind (wpAny_seqItems hol hdl ?_)
  simp only [Int.toNat_natCast, hx]
  refine wpAny_bind (wpAny_setField ho hd (by simp) (wpAny_pure ⟨x, rfl, wpAny_pure (hQ _ ?_ (Heap.SameBut.update ..))⟩))
  exact ⟨_, Heap.get?_update_self _ ho (Obj.isFreed_of_fields (Obj.data_mapFields hd _)), (Obj.cls_mapFields ..).trans hc, by
    rw [Obj.data_mapFields hd]; simp [rawInt]⟩
theorem nextOf_tuple_end {A : Around} {E : Value → Shared → Prop} {s : Shared} {it l : Addr} {i : Nat} {items : Array Value} {Q : Value → Shared → Prop} (hh : A.handled = none) (hit : s.heap.IsTupleIter it l i) (hl : s.heap.IsTuple l items) (hx : items[i]? = none)
    (hE : ∀ h' e, Heap.ExtBut it s.heap h' → (∃ o, h'.get? e = some o ∧ o.cls = .type "StopIteration") → E (.ref e) { s with heap := h' }) : wpAny (model prog w) A (Builtin.SmallTypes.nextOf (.ref it)) Q E s := by
  obtain ⟨o, ho, hc, hd⟩ := id hit
  obtain ⟨ol, hol, _, nl, hdl⟩ := hl
  unfold Builtin.SmallTypes.nextOf
  refine wpAny_bind (wpAny_callSpecial?_slot (name := Str.ofString "__next__") hit.typeIs PySem.F.slot_tuple_iterator_next
    (wpAny_call_entry PySem.F.slot_tuple_iterator_next hit.typeIs PySem.F.entry_tuple_iterator_next ?_ (PySem.F.args_tuple_iterator_next_1 _)))
  show wpAny _ _ (field (.ref it) 0 >>= _) _ _ s
  refine wpAny_bind (wpAny_field ho hd (x := .ref l) rfl ?_)
  show wpAny _ _ (if (Value.ref l == Value.none) = true then _ else _) _ _ s
  rw [if_neg (show ¬ ((Value.ref l == Value.none) = true) from Bool.false_ne_true)]
  show wpAny _ _ (field (.ref it) 1 >>= _) _ _ s
  refine wpAny_bind (wpAny_field ho hd (x := .int i 0) rfl ?_)
  show wpAny _ _ (seqItems? (.ref l) >>= _) _ _ s
  refine wpAny_bind (wpAny_seqItems hol hdl ?_)
  simp only [Int.toNat_natCast, hx]
  refine wpAny_bind (wpAny_rule (wpAny_bind (wpAny_setField ho hd (by simp) ?_)))
  show wpAny _ _ (newExc (.type "StopIteration") [] >>= _) _ _ _
  refine wpAny_bind ?_
  simp only [newExc, newTuple]
  refine wpAny_bind (wpAny_newObj_type ?_ (by size_fits))
  refine wpAny_bind (m := firstArgMember _ _) (wpAny_of_eq (a := Value.none) (by first | rfl | (simp only [firstArgMember]; rfl)) ?_)
  refine wpAny_newObj_type ?_ (by size_fits)
  simp only [raiseNew]
  refine wpAny_bind (wpAny_handled ?_)
  first | rw [show A.in1.handled = none from hh] | rw [hh]
  refine wpAny_bind (wpAny_pure (wpAny_throw ?_))
  exact hE _ _ (((Heap.SameBut.update ..).extBut.push _).push _) ⟨_, Heap.get?_push_size _ rfl, rfl⟩
theorem src_tuple {A : Around} (hh : A.handled = none) {I a : Addr} {o : Obj} {vs : List Value} {n : Nat} {ds : List D} {K₀ : KM} (h1 : K₀ a = some o) (h2 : o.cls = .type "tuple") (h3 : o.data = .seq vs.toArray n) (h4 : All prog w K₀ vs ds) (hne : a ≠ I) :
    Src1 prog w A I [I] ds (fun k K h => h.IsTupleIter I a k ∧ Sub K₀ K ∧ InH K h) where
  live := fun k K h st => in_one (let ⟨⟨o, e, _⟩, _⟩ := st; ⟨o, e⟩)
  frame := fun k K K' h h' st hs hK hk => ⟨st.1.at fun o e => hk I (by simp) o e, st.2.1.trans hs, hK⟩
  item := fun k d K s Q E hd st hK hW q => by
    obtain ⟨v, hv, r⟩ := h4.get hd
    have hl : s.heap.IsTuple a vs.toArray := ⟨o, hK _ _ (st.2.1 _ _ h1), h2, n, h3⟩
    refine nextOf_tuple_item st.1 hl (x := v) (by simpa using hv) fun h' hit hs => ?_
    have t := stp_same hK hW hs.extBut
    exact q K v _ t ⟨hit, st.2.1, t.inH⟩ (r.mono st.2.1)
  done := fun K s Q E st hK hW q => by
    have hl : s.heap.IsTuple a vs.toArray := ⟨o, hK _ _ (st.2.1 _ _ h1), h2, n, h3⟩
    refine nextOf_tuple_end hh st.1 hl (by simp [h4.length]) fun h' e hs he => ?_
    exact q K _ e (stp_same hK hW hs) he
/-- a def mapped over a source -/
theorem src_map {A : Around} {m TI fa it : Addr} {W : List Addr} {ds es : List D} {J : Nat → KM → Heap → Prop} {K₀ : KM} (S : Src1 prog w A.in1 it W ds J) (hl : ds.length = es.length) (hm : m ∉ W) (hTI : TI ∉ W)
    (hcall : ∀ (k : Nat) (d e : D) (K : KM) (s : Shared) (v : Value) (Q : Value → Shared → Prop) (E : Value → Shared → Prop), ds[k]? = some d → es[k]? = some e → Sub K₀ K → InH K s.heap → Rep prog w K v d → (∀ K' v' s', Next K s K' s' → Rep prog w K' v' e → Q v' s') → wpAny (model prog w) A.in1 (call (.ref fa) [v]) Q E s) :
    Src1 prog w A m (m :: TI :: W) es (fun k K h => MapAt h m TI fa ∧ h.get? TI = some { cls := .type "tuple", data := .seq #[.ref it] } ∧ J k K h ∧ Sub K₀ K ∧ InH K h) where
  live := fun k K h st b hb => by
    rcases List.mem_cons.mp hb with rfl | hb
    · exact ⟨_, st.1⟩
    rcases List.mem_cons.mp hb with rfl | hb
    · exact ⟨_, st.2.1⟩
    exact S.live k K h st.2.2.1 b hb
  frame := fun k K K' h h' st hs hK hk => ⟨hk m (by simp) _ st.1, hk TI (by simp) _ st.2.1, S.frame k K K' h h' st.2.2.1 hs hK fun b hb => hk b (by simp [hb]), st.2.2.2.1.trans hs, hK⟩
  item := fun k e K s Q E he st hK hW q => by
    obtain ⟨hm0, hT0, j0, hsub, hin⟩ := st
    have hT : s.TypeIs (.ref m) "map" := ⟨_, hm0, rfl⟩
    obtain ⟨d, hd⟩ : ∃ d, ds[k]? = some d := ⟨_, List.getElem?_eq_getElem (by rw [hl]; exact (List.getElem?_eq_some_iff.mp he).1)⟩
    unfold Builtin.SmallTypes.nextOf
    refine wpAny_bind (wpAny_callSpecial?_slot (name := Str.ofString "__next__") hT slot_map_next (wpAny_call_entry slot_map_next hT entry_map_next ?_ (args_map_next_1 _)))
    show wpAny _ _ (field (.ref m) 0 >>= _) _ _ s
    refine wpAny_bind (wpAny_field hm0 rfl (x := .ref TI) rfl ?_)
    refine wpAny_bind (wpAny_seqItems hT0 rfl ?_)
    dsimp only
    refine wpAny_bind ?_
    rw [List.forIn_toArray]
    simp only [List.forIn_cons, List.forIn_nil]
    refine wpAny_bind (wpAny_bind (wpAny_holding (S.item k d K s _ _ hd j0 hK (fun b hb => hW b (by simp [hb])) fun K1 v s1 t1 j1 r1 => wpAny_pure (wpAny_pure ?_))))
    have hm1 : MapAt s1.heap m TI fa := t1.kept m _ hm hm0
    have hT1 : s1.heap.get? TI = some { cls := .type "tuple", data := .seq #[.ref it] } := t1.kept TI _ hTI hT0
    have al : ∀ b ∈ m :: TI :: W, K b = none ∧ ∃ o, s.heap.get? b = some o := fun b hb => ⟨hW b hb, by
      rcases List.mem_cons.mp hb with rfl | hb
      · exact ⟨_, hm0⟩
      rcases List.mem_cons.mp hb with rfl | hb
      · exact ⟨_, hT0⟩
      exact S.live k K _ j0 b hb⟩
    have u1 : Stp (m :: TI :: W) K s K1 s1 := t1.weaken (fun b hb => by simp [hb]) al
    have al1 : ∀ b ∈ m :: TI :: W, K1 b = none ∧ ∃ o, s1.heap.get? b = some o := fun b hb => ⟨u1.out b hb, by
      rcases List.mem_cons.mp hb with rfl | hb
      · exact ⟨_, hm1⟩
      rcases List.mem_cons.mp hb with rfl | hb
      · exact ⟨_, hT1⟩
      exact S.live _ K1 _ j1 b hb⟩
    refine wpAny_bind (wpAny_field hm1 rfl (x := .ref fa) rfl ?_)
    refine wpAny_bind (wpAny_holding (hcall k d e K1 s1 v _ _ hd he (hsub.trans t1.sub) t1.inH r1 fun K2 v2 s2 n2 r2 => wpAny_bind (wpAny_letGo (wpAny_pure ⟨_, rfl, wpAny_pure ?_⟩))))
    exact q K2 v2 s2 (u1.trans (.ofNext n2 al1)) ⟨n2.keeps.get hm1, n2.keeps.get hT1, S.frame _ _ _ _ _ j1 n2.sub n2.inH fun b _ o e => n2.keeps.get e, (hsub.trans t1.sub).trans n2.sub, n2.inH⟩ r2
  done := fun K s Q E st hK hW q => by
    obtain ⟨hm0, hT0, j0, hsub, hin⟩ := st
    have hT : s.TypeIs (.ref m) "map" := ⟨_, hm0, rfl⟩
    unfold Builtin.SmallTypes.nextOf
    refine wpAny_bind (wpAny_callSpecial?_slot (name := Str.ofString "__next__") hT slot_map_next (wpAny_call_entry slot_map_next hT entry_map_next ?_ (args_map_next_1 _)))
    show wpAny _ _ (field (.ref m) 0 >>= _) _ _ s
    refine wpAny_bind (wpAny_field hm0 rfl (x := .ref TI) rfl ?_)
    refine wpAny_bind (wpAny_seqItems hT0 rfl ?_)
    dsimp only
    refine wpAny_bind ?_
    rw [List.forIn_toArray]
    simp only [List.forIn_cons, List.forIn_nil]
    refine wpAny_bind (wpAny_bind (wpAny_holding (S.done K s _ _ (by rw [hl]; exact j0) hK (fun b hb => hW b (by simp [hb])) fun K1 s1 e t1 he => ?_)))
    refine q K1 s1 e (t1.weaken (fun b hb => by simp [hb]) fun b hb => ⟨hW b hb, ?_⟩) he
    rcases List.mem_cons.mp hb with rfl | hb
    · exact ⟨_, hm0⟩
    rcases List.mem_cons.mp hb with rfl | hb
    · exact ⟨_, hT0⟩
    exact S.live _ K _ j0 b hb
end
end Mine
namespace Mine
section
variable {prog : Program} {w : World} {c : Cx}
theorem Fit.in1 {A : Around} {n : Nat} (h : Fit A n) : Fit A.in1 n := ⟨h.hand, h.room⟩
theorem Fit.le {A : Around} {n m : Nat} (h : Fit A n) (hm : m ≤ n) : Fit A m := ⟨h.hand, Nat.le_trans (Nat.add_le_add_left hm _) h.room⟩
theorem Fit.deeper {A : Around} {n : Nat} {env : Env} (h : Fit A (n + 1)) : Fit (A.deeper env) n := ⟨h.hand, by have := h.room; show A.depth + 1 + n ≤ _; omega⟩
theorem Fit.here {A : Around} {n : Nat} (h : Fit A (n + 1)) : A.depth < recursionLimit := by have := h.room; omega
/-! ## str_if_bytes -/
theorem no_default {B : Heap} {fd : FuncData} {i : Nat} (h : FnIs B fd i) (hi : i ≠ 3) : fd.defaults = .none := by
  rcases h.dflt with ⟨_, h⟩ | ⟨h, _⟩
  · exact h
  · exact absurd h hi
theorem bind_sib {B : Heap} {fd : FuncData} (h : FnIs B fd 1) (u : Value) : bindArgs fd ⟨[u], []⟩ = pure [((("value" : Str), u) : Str × Value)] := by
  have hd := no_default h (by decide)
  unfold bindArgs
  simp only [h.params, hd]
  rfl
theorem ev_isi_bytes {p tp pos : Pos} {e : Expr} {b : List UInt8} (h : Ev prog w c e (.bytes b)) (hk : c.env.kindOf "isinstance" = some .globalImplicit := by rfl) (hkT : c.env.kindOf "bytes" = some .globalImplicit := by rfl)
    (he : starEach [e, .Name "bytes" tp] c.env = (false, eval e c.env) :: starEach [.Name "bytes" tp] c.env := by rfl) (he2 : starEach [.Name "bytes" tp] c.env = (false, eval (.Name "bytes" tp) c.env) :: starEach [] c.env := by rfl) : Ev prog w c (.Call (.Name "isinstance" p) [e, .Name "bytes" tp] [] pos) (.bool true) := fun K s Q E ok q =>
  isi_road ok (T := "bytes") (by simp [biTab]) (h K s _ E ok fun K1 v s1 n1 r1 => ⟨⟨K1, n1⟩, by cases r1 with | bytes _ t => exact call_isi_bytes (q K1 _ s1 n1 (.bool true))⟩) hk hkT (by decide) he he2
set_option maxHeartbeats 4000000 in
theorem spec_sib {A : Around} {n : Nat} (hA : Fit A (n + 1)) {b : List UInt8} {x : Str} (hd : Dec b x) : Spec prog w A 1 [.bytes b] [] (.str x) := by
  intro B KB a o fd K s vs kvs R hB hKB h1 h2 h3 h4 hK hvs hkw q
  cases hvs with
  | @cons u _ _ _ ru rs =>
  cases rs
  have hk0 : kvs = [] := by have := hkw.names; simpa using this
  subst hk0
  refine enter (ρ := [("value", .bytes b)]) hA.here hA.hand hB hKB h1 h2 h3 h4 hK (fun Q E hq => by
    rw [bind_sib h3]
    exact wpAny_pure (hq K _ s (.refl hK) rfl (.cons ru .nil))) rfl rfl rfl (fun _ _ _ => rfl) fun L qn code => ?_
  exact runs_return (ev_if_true (evT_bool (ev_isi_bytes (ev_name rfl))) (ev_decode (ev_name rfl) hd)) fun K' v s' st r => q K' v s' (st.toNext fun b hb => nomatch hb) r

/-! ## what the keys say -/
def bLength : List UInt8 := [108, 101, 110, 103, 116, 104]
def bLastGen : List UInt8 := [108, 97, 115, 116, 45, 103, 101, 110, 101, 114, 97, 116, 101, 100, 45, 105, 100]
def bFirst : List UInt8 := [102, 105, 114, 115, 116, 45, 101, 110, 116, 114, 121]
def bLast : List UInt8 := [108, 97, 115, 116, 45, 101, 110, 116, 114, 121]
def bGroups : List UInt8 := [103, 114, 111, 117, 112, 115]
def bEntries : List UInt8 := [101, 110, 116, 114, 105, 101, 115]
def bName : List UInt8 := [110, 97, 109, 101]
def bPel : List UInt8 := [112, 101, 108, 45, 99, 111, 117, 110, 116]
def bConsumers : List UInt8 := [99, 111, 110, 115, 117, 109, 101, 114, 115]
def bIdle : List UInt8 := [105, 100, 108, 101]
def bInactive : List UInt8 := [105, 110, 97, 99, 116, 105, 118, 101]
def bPending : List UInt8 := [112, 101, 110, 100, 105, 110, 103]
theorem dec_length : Dec bLength "length" := ⟨by decide, by decide +kernel, 6, fun _ => by kernel_rfl⟩
theorem dec_lastgen : Dec bLastGen "last-generated-id" := ⟨by decide, by decide +kernel, 17, fun _ => by kernel_rfl⟩
theorem dec_first : Dec bFirst "first-entry" := ⟨by decide, by decide +kernel, 11, fun _ => by kernel_rfl⟩
theorem dec_last : Dec bLast "last-entry" := ⟨by decide, by decide +kernel, 10, fun _ => by kernel_rfl⟩
theorem dec_groups : Dec bGroups "groups" := ⟨by decide, by decide +kernel, 6, fun _ => by kernel_rfl⟩
theorem dec_entries : Dec bEntries "entries" := ⟨by decide, by decide +kernel, 7, fun _ => by kernel_rfl⟩
theorem dec_name : Dec bName "name" := ⟨by decide, by decide +kernel, 4, fun _ => by kernel_rfl⟩
theorem dec_pel : Dec bPel "pel-count" := ⟨by decide, by decide +kernel, 9, fun _ => by kernel_rfl⟩
theorem dec_consumers : Dec bConsumers "consumers" := ⟨by decide, by decide +kernel, 9, fun _ => by kernel_rfl⟩
theorem dec_idle : Dec bIdle "idle" := ⟨by decide, by decide +kernel, 4, fun _ => by kernel_rfl⟩
theorem dec_inactive : Dec bInactive "inactive" := ⟨by decide, by decide +kernel, 8, fun _ => by kernel_rfl⟩
theorem dec_pending : Dec bPending "pending" := ⟨by decide, by decide +kernel, 7, fun _ => by kernel_rfl⟩
end
end Mine
namespace Mine
section
variable {prog : Program} {w : World} {c : Cx} {α : Anc}
/-! ## pairs_to_dict -/
theorem bind_ptd0 {B : Heap} {fd : FuncData} (h : FnIs B fd 3) {A : Around} {E : Value → Shared → Prop} {s : Shared} {v : Value} {Q : List (Str × Value) → Shared → Prop} (hB : ∀ b o, B.get? b = some o → s.heap.get? b = some o)
    (q : Q [((("response" : Str), v) : Str × Value), (("decode_keys" : Str), .bool false), (("decode_string_values" : Str), .bool false)] s) : wpAny (model prog w) A (bindArgs fd ⟨[v], []⟩) Q E s := by
  obtain ⟨da, od, hda, hod, hcd, n, hdd⟩ : ∃ a o, fd.defaults = .ref a ∧ B.get? a = some o ∧ o.cls = .type "tuple" ∧ ∃ n, o.data = .seq #[.bool false, .bool false] n := by
    rcases h.dflt with ⟨e, _⟩ | ⟨_, a, o, h1, h2, h3, h4⟩
    · rw [h.params] at e; cases e
    · exact ⟨a, o, h1, h2, h3, h4⟩
  unfold bindArgs
  simp only [h.params, hda]
  show wpAny _ _ (seqItems? (.ref da) >>= _) _ _ s
  exact wpAny_bind (wpAny_seqItems (hB _ _ hod) hdd (wpAny_pure q))
theorem bind_ptd1 {B : Heap} {fd : FuncData} (h : FnIs B fd 3) {A : Around} {E : Value → Shared → Prop} {s : Shared} {v u : Value} {Q : List (Str × Value) → Shared → Prop} (hB : ∀ b o, B.get? b = some o → s.heap.get? b = some o)
    (q : Q [((("response" : Str), v) : Str × Value), (("decode_keys" : Str), u), (("decode_string_values" : Str), .bool false)] s) : wpAny (model prog w) A (bindArgs fd ⟨[v], [("decode_keys", u)]⟩) Q E s := by
  obtain ⟨da, od, hda, hod, hcd, n, hdd⟩ : ∃ a o, fd.defaults = .ref a ∧ B.get? a = some o ∧ o.cls = .type "tuple" ∧ ∃ n, o.data = .seq #[.bool false, .bool false] n := by
    rcases h.dflt with ⟨e, _⟩ | ⟨_, a, o, h1, h2, h3, h4⟩
    · rw [h.params] at e; cases e
    · exact ⟨a, o, h1, h2, h3, h4⟩
  unfold bindArgs
  simp only [h.params, hda]
  show wpAny _ _ (seqItems? (.ref da) >>= _) _ _ s
  exact wpAny_bind (wpAny_seqItems (hB _ _ hod) hdd (wpAny_pure q))

/-! values that are no data, held by a name -/
theorem Fr.storedRaw {K : KM} {s s' : Shared} {x : Str} {v : Value} {ρ' : List (Str × D)} (f : Fr prog w c α K s) (wr : Wrote prog w c α K s x v s') (hρ : ∀ y d, ρ'.lookup y = some d → y ≠ x ∧ c.ρ.lookup y = some d) (hO : c.O.lookup x = none) : Fr prog w { c with ρ := ρ' } α K s' := by
  obtain ⟨b, mv, hmay, hb⟩ := wr.moved
  obtain ⟨m1, m2, m3, m4⟩ := f.moved mv hmay
  refine ⟨⟨f.ok.env, f.ok.mod, f.ok.hand, f.ok.kb, m3, m4, fun y e h => ?_, fun y a e h => f.wrote_own wr (fun q => by subst q; rw [hO] at h; cases h) h⟩, m1, m2, wr.ns, f.loc, fun n a h => ⟨wr.cel n a h, (f.cel n a h).2⟩, f.inj, f.own, f.apart, f.base⟩
  obtain ⟨hy, h'⟩ := hρ y e h
  obtain ⟨u, h1, h2⟩ := f.ok.vars y e h'
  exact ⟨u, wr.oth y u hy h1, h2⟩
theorem Wrote.keeps {K : KM} {s s' : Shared} {x : Str} {v : Value} (f : Fr prog w c α K s) (wr : Wrote prog w c α K s x v s') {s0 : Shared} {b : Addr} {o : Obj} (hf : s0.heap.get? b = none) (hal : ∃ o, s0.heap.get? c.env.locals = some o) (hcel : ∀ n a, c.env.cells.lookup n = some a → ∃ o, s0.heap.get? a = some o) (e : s.heap.get? b = some o) : s'.heap.get? b = some o := by
  obtain ⟨a, mv, _, ha⟩ := wr.moved
  refine mv.get (fun q => ?_) e
  subst q
  rcases ha with rfl | ⟨n, h⟩
  · obtain ⟨o, e⟩ := hal; rw [hf] at e; cases e
  · obtain ⟨o, e⟩ := hcel n b h; rw [hf] at e; cases e
theorem raw1 {K : KM} {s : Shared} (ok : Ok prog w c K s) {f : Str} {T : String} {p pos : Pos} {e1 : Expr} {Q : Value → Shared → Prop} {E : Value → Shared → Prop} (hf : (f, .type T) ∈ biTab)
    (h : wpAny (model prog w) c.A (eval e1 c.env) (fun v1 s1 => wpAny (model prog w) c.A (call (.type T) [v1]) Q E s1) E s) (hk : c.env.kindOf f = some .globalImplicit := by rfl) (hd : (f == ("__debug__" : Str)) = false := by decide)
    (he : starEach [e1] c.env = (false, eval e1 c.env) :: starEach [] c.env := by rfl) : wpAny (model prog w) c.A (eval (.Call (.Name f p) [e1] [] pos) c.env) Q E s := by
  refine wpAny_Call_Name_kw (load_bi ok hf hk hd p ?_)
  refine PyProof.Rows.callWith_type1 ?_ he rfl
  rw [he]
  exact spliced_cons (wpAny_mono h (fun v1 s1 h1 => spliced_nil h1) fun _ _ x => x)
theorem raw2 {K : KM} {s : Shared} (ok : Ok prog w c K s) {f : Str} {T : String} {p pos : Pos} {e1 e2 : Expr} {Q : Value → Shared → Prop} {E : Value → Shared → Prop} (hf : (f, .type T) ∈ biTab)
    (h : wpAny (model prog w) c.A (eval e1 c.env) (fun v1 s1 => wpAny (model prog w) c.A (eval e2 c.env) (fun v2 s2 => wpAny (model prog w) c.A (call (.type T) [v1, v2]) Q E s2) E s1) E s) (hk : c.env.kindOf f = some .globalImplicit := by rfl) (hd : (f == ("__debug__" : Str)) = false := by decide)
    (he : starEach [e1, e2] c.env = (false, eval e1 c.env) :: starEach [e2] c.env := by rfl) (he2 : starEach [e2] c.env = (false, eval e2 c.env) :: starEach [] c.env := by rfl) : wpAny (model prog w) c.A (eval (.Call (.Name f p) [e1, e2] [] pos) c.env) Q E s := by
  refine wpAny_Call_Name_kw (load_bi ok hf hk hd p ?_)
  refine PyProof.Rows.callWith_type1 ?_ he (by rw [he2]; rfl)
  rw [he]
  refine spliced_cons (wpAny_mono h (fun v1 s1 h1 => ?_) fun _ _ x => x)
  rw [he2]
  exact spliced_cons (wpAny_mono h1 (fun v2 s2 h2 => spliced_nil h2) fun _ _ x => x)

/-- zip(x1, x2) in hand, dict of it -/
theorem dict_zip {K : KM} {s : Shared} {i1 i2 z TI TO : Addr} {W : List Addr} {xs : List (Key × D)} {J Jm : Nat → KM → Heap → Prop} {Q : Value → Shared → Prop} {E : Value → Shared → Prop} (ok : Ok prog w c K s) (S : Srcs prog w c.A.in1.in1.in1 i1 i2 W (xs.map fun p => (keyD p.1, p.2)) J Jm) (hlim : xs.length ≤ lim)
    (hz : ZipAt s.heap z TI TO .none (.bool false)) (hTI : IsPair s.heap TI (.ref i1) (.ref i2)) (hTO : IsPair s.heap TO .none .none) (d1 : z ≠ TI) (d2 : z ≠ TO) (d3 : TI ≠ TO) (zW : z ∉ W) (TIW : TI ∉ W) (TOW : TO ∉ W) (st : J 0 K s.heap) (hW : ∀ b ∈ z :: TI :: TO :: W, K b = none)
    (q : ∀ K' a s', Stp (z :: TI :: TO :: W) K s K' s' → s.heap.get? a = none → K' a = none → TopAt prog w K' s'.heap a (mkD (puts xs [])) → Q (.ref a) s') : wpAny (model prog w) c.A (call (.type "dict") [.ref z]) Q E s := by
  have it := zip_it (A := c.A.in1.in1) ok.hand S d1 d2 d3 zW TIW TOW
  have e : (xs.map fun p => (keyD p.1, p.2)).map pairV = xs.map pairD := by rw [List.map_map]; rfl
  rw [e] at it
  exact dict_of ok it hlim hz (fun s' A Q E hk hq => wpAny_pyIter_slot (show s'.TypeIs (.ref z) "zip" from ⟨_, hk _ hz, rfl⟩) PySem.F.slot_zip_iter (wpAny_call_entry PySem.F.slot_zip_iter (show s'.TypeIs (.ref z) "zip" from ⟨_, hk _ hz, rfl⟩) PySem.F.entry_zip_iter (by
    show wpAny _ _ (ret (.ref z)) _ _ s'
    exact wpAny_pure ⟨_, rfl, "zip", _, ⟨_, hk _ hz, rfl⟩, PySem.F.slot_zip_next.lookup, hq⟩) (PySem.F.args_zip_iter_1 _))) ⟨.inl hz, hTI, ⟨_, _, hTO⟩, st⟩ hW q
end
end Mine
namespace Mine
section
variable {prog : Program} {w : World} {c : Cx} {α : Anc}
theorem call_iter {A : Around} {E : Value → Shared → Prop} {s : Shared} {a : Addr} {Q : Value → Shared → Prop} (h : wpAny (model prog w) A.in1 (pyIter (.ref a)) Q E s) : wpAny (model prog w) A (call (.builtin "iter") [.ref a]) Q E s := by
  refine call_function_entry (by decide +kernel) (by decide +kernel) kdk_entry_iter (kdk_args_iter _) ?_
  unfold Builtin.«iter»
  refine wpAny_bind (m := someArgs "iter" 1 2 _) (wpAny_of_eq (a := [Value.ref a]) (by first | rfl | kernel_rfl!) ?_)
  show wpAny _ _ (pyIter (.ref a) >>= _) _ _ _
  exact wpAny_bind (wpAny_mono h (fun v s' hq => wpAny_pure ⟨_, rfl, hq⟩) fun _ _ x => x)
def flatP (l : List (Key × D)) : List D := l.flatMap fun p => [keyD p.1, p.2]
theorem flatP_len : ∀ l : List (Key × D), (flatP l).length = 2 * l.length
  | [] => rfl
  | p :: l => by
    have := flatP_len l
    show ([keyD p.1, p.2] ++ flatP l).length = _
    rw [List.length_append, this, List.length_cons]; simp; omega
theorem flatP_get : ∀ (l : List (Key × D)) (k : Nat) (p : Key × D), l[k]? = some p → (flatP l)[2 * k]? = some (keyD p.1) ∧ (flatP l)[2 * k + 1]? = some p.2
  | [], k, p, h => by simp at h
  | q :: l, 0, p, h => by simp at h; subst h; exact ⟨rfl, rfl⟩
  | q :: l, k + 1, p, h => by
    simp at h
    obtain ⟨h1, h2⟩ := flatP_get l k p h
    have e : flatP (q :: l) = keyD q.1 :: q.2 :: flatP l := rfl
    rw [e, show 2 * (k + 1) = 2 * k + 1 + 1 by omega, List.getElem?_cons_succ, List.getElem?_cons_succ, List.getElem?_cons_succ]
    exact ⟨h1, h2⟩
set_option maxHeartbeats 4000000 in
theorem spec_ptd {A : Around} {n : Nat} (hA : Fit A (n + 1)) {l : List (Key × D)} (hz : 2 * l.length ≤ lim) : SpecN prog w A 3 [.list (flatP l)] [] (mkD (puts l [])) := by
  intro B KB a o fd K s vs kvs R hB hKB h1 h2 h3 h4 hK hvs hkw q
  cases hvs with
  | @cons u _ _ _ ru rs =>
  cases rs
  have hk0 : kvs = [] := by have := hkw.names; simpa using this
  subst hk0
  refine enter (ρ := [("response", .list (flatP l)), ("decode_keys", .bool false), ("decode_string_values", .bool false)]) hA.here hA.hand hB hKB h1 h2 h3 h4 hK (fun Q E hq => bind_ptd0 h3 h4 (hq K _ s (.refl hK) rfl (.cons ru (.cons (.bool _) (.cons (.bool _) .nil))))) rfl rfl rfl (fun _ _ _ => rfl) fun L qn code => ?_
  refine runs_if_false (evT_cmp (ev_name rfl) ev_none (evC_is rfl)) (runs_pop ?_)
  refine runs_if_false (evT_bools (evA_or_false (evT_bool (ev_name rfl)) (evA_or_false (evT_bool (ev_name rfl)) evA_nil_or))) ?_
  intro K1 s1 E f
  refine wpS_cons (wpAny_Assign_Name ?_ rfl)
  refine func_road f.ok (f := "iter") (T := "iter") (ds := [.list (flatP l)]) (by simp [biTab]) (evL_cons (ev_name rfl) evL_nil) (fun K2 vs2 s2 n2 r2 => ?_) rfl (by decide) rfl rfl
  cases r2 with
  | @cons v _ _ _ rv r2 =>
  cases r2
  cases rv with
  | @list x ox us m _ g1 g2 g3 g4 g5 g6 =>
  have f2 := f.next n2
  have gx := f2.ok.inH _ _ g1
  have hl : s2.heap.IsList x us.toArray := ⟨ox, gx, g2, m, g3⟩
  refine call_iter (wpAny_pyIter_list hl ?_)
  have n3 : Next K2 s2 K2 { s2 with heap := s2.heap.push { cls := .type "list_iterator", data := .fields #[.ref x, .int 0 0] } } := .keep f2.ok.inH (kp_push s2 _)
  have hit : (s2.heap.push { cls := .type "list_iterator", data := .fields #[.ref x, .int 0 0] }).IsListIter s2.heap.objs.size x 0 := ⟨_, Heap.get?_push_size _ rfl, rfl, rfl⟩
  have fI := get_size s2.heap
  have f3 := f2.next n3
  refine store_core f3 rfl fun s4 wr => ?_
  have f4 := f3.storedRaw (ρ' := [("response", .list (flatP l))]) wr (fun y d h => by
    rw [lookup_two] at h
    by_cases hy : y = "response"
    · subst hy; rw [if_pos rfl] at h; cases h; exact ⟨by decide, rfl⟩
    · rw [if_neg hy] at h; cases h) rfl
  have hit4 : s4.heap.IsListIter s2.heap.objs.size x 0 := by
    obtain ⟨oI, e1, e2⟩ := hit
    exact ⟨oI, wr.keeps f3 fI (ns_alive f2) (fun n a h => let ⟨⟨v, o, e, _⟩, _⟩ := f2.cel n a h; ⟨o, e⟩) e1, e2⟩
  have hxne : x ≠ s2.heap.objs.size := Nat.ne_of_lt (Heap.lt_size gx)
  refine wpS_cons (wpAny_Return_some ?_)
  refine raw1 f4.ok (T := "dict") (by simp [biTab]) ?_
  refine raw2 f4.ok (T := "zip") (by simp [biTab]) ?_
  refine wpAny_Name (load_var f4.ok.env wr.at_ (wpAny_Name (load_var f4.ok.env wr.at_ ?_) (by decide))) (by decide)
  refine call_zip (wpAny_pyIter_listiter hit4 (wpAny_pyIter_listiter hit4 ?_))
  intro h' z TI TO hzat hTI hTO fz fTI fTO d1 d2 d3 hk
  have n5 : Next K2 s4 K2 { s4 with heap := h' } := .keep f4.ok.inH (.of s4.toks hk)
  have f5 := f4.next n5
  have hI4 : ∃ o, s4.heap.get? s2.heap.objs.size = some o := let ⟨o, e, _⟩ := hit4; ⟨o, e⟩
  have neI : ∀ {b : Addr}, s4.heap.get? b = none → b ∉ [s2.heap.objs.size] := fun hb hm => by
    rcases List.mem_cons.mp hm with rfl | hm
    · obtain ⟨o, e⟩ := hI4; rw [hb] at e; cases e
    · cases hm
  have kI : K2 s2.heap.objs.size = none := none_of_fresh f2.ok.inH fI
  have hkW : ∀ b ∈ z :: TI :: TO :: [s2.heap.objs.size], K2 b = none := fun b hb => by
    rcases List.mem_cons.mp hb with rfl | hb
    · exact none_of_fresh f4.ok.inH fz
    rcases List.mem_cons.mp hb with rfl | hb
    · exact none_of_fresh f4.ok.inH fTI
    rcases List.mem_cons.mp hb with rfl | hb
    · exact none_of_fresh f4.ok.inH fTO
    rcases List.mem_cons.mp hb with rfl | hb
    · exact kI
    · cases hb
  have hit5 : h'.IsListIter s2.heap.objs.size x 0 := hit4.at fun o e => hk _ o e
  refine dict_zip (xs := l) f5.ok (srcs_twice (A := (fcx A 3 L a qn code _ B KB).A.in1.in1.in1) (xs := l.map fun p => (keyD p.1, p.2)) hA.hand g1 g2 g3 g4 hxne (fun k p hp => ?_) (by rw [flatP_len, List.length_map])) (by omega) hzat hTI hTO d1 d2 d3 (neI fz) (neI fTI) (neI fTO) ⟨hit5, .refl _, n5.inH⟩ hkW fun K6 b s6 t6 hb hb6 tb => ?_
  · rw [List.getElem?_map] at hp
    obtain ⟨p', hp', rfl⟩ := Option.map_eq_some_iff.mp hp
    exact flatP_get l k p' hp'
  · have frz : ∀ b ∈ z :: TI :: TO :: [s2.heap.objs.size], s.heap.get? b = none := fun b hb => by
      rcases List.mem_cons.mp hb with rfl | hb
      · exact (fresh_anchor f4 fz).2
      rcases List.mem_cons.mp hb with rfl | hb
      · exact (fresh_anchor f4 fTI).2
      rcases List.mem_cons.mp hb with rfl | hb
      · exact (fresh_anchor f4 fTO).2
      rcases List.mem_cons.mp hb with rfl | hb
      · exact (fresh_anchor f2 fI).2
      · cases hb
    have st := f5.stp.over t6 (fun b hb => .inr (frz b hb)) f5.alive
    exact q K6 b s6 (st.toNext fun b hb => nomatch hb) (fresh_anchor f5 hb).2 hb6 tb
end
end Mine
namespace Mine
section
variable {prog : Program} {w : World} {c : Cx} {α : Anc}
theorem Ok.ev {K : KM} {s : Shared} (ok : Ok prog w c K s) {e : Expr} {d : D} {Q : Value → Shared → Prop} {E : Value → Shared → Prop} (h : Ev prog w c e d) (q : ∀ K' v s', Next K s K' s' → Rep prog w K' v d → Q v s') : wpAny (model prog w) c.A (eval e c.env) Q E s := h K s Q E ok q
theorem Ok.evT {K : KM} {s : Shared} (ok : Ok prog w c K s) {e : Expr} {b : Bool} {Q : Bool → Shared → Prop} {E : Value → Shared → Prop} (h : EvT prog w c e b) (q : ∀ K' s', Next K s K' s' → Q b s') : wpAny (model prog w) c.A (PySem.isTrue e c.env (eval e c.env)) Q E s := h K s Q E ok q
theorem EvR.eq {e : Expr} {b b' : D} (h : EvR prog w c e b) (hb : b = b') : EvR prog w c e b' := hb ▸ h
set_option maxHeartbeats 8000000 in
theorem spec_ptdk {A : Around} {n : Nat} (hA : Fit A (n + 2)) {ds ks vs' : List D} {l : List (List UInt8 × Str × D)} (hl : ∀ p ∈ l, Dec p.1 p.2.1) (hk : pickD ds none none (some 2) = ks) (hv : pickD ds (some 1) none (some 2) = vs') (hks : ks = l.map fun p => .bytes p.1) (hvs : vs' = l.map fun p => p.2.2) (hz : l.length ≤ lim) :
    SpecN prog w A 3 [.list ds] [("decode_keys", .bool true)] (mkD (puts (l.map fun p => (.s p.2.1, p.2.2)) [])) := by
  intro B KB a o fd K s vs kvs R hB hKB h1 h2 h3 h4 hK hvs' hkw q
  cases hvs' with
  | @cons u _ _ _ ru rs =>
  cases rs
  obtain ⟨bv, hk0, rbv⟩ : ∃ v, kvs = [((("decode_keys" : Str), v) : Str × Value)] ∧ Rep prog w K v (.bool true) := by
    obtain ⟨hn, hva⟩ := hkw
    match kvs, hn, hva with
    | [(x, v)], hn, hva =>
      simp only [List.map_cons, List.map_nil, List.cons.injEq, and_true] at hn
      subst hn
      cases hva with
      | cons r _ => exact ⟨v, rfl, r⟩
  subst hk0
  cases rbv
  refine enter (ρ := [("response", .list ds), ("decode_keys", .bool true), ("decode_string_values", .bool false)]) (Fit.here hA) hA.hand hB hKB h1 h2 h3 h4 hK (fun Q E hq => bind_ptd1 h3 h4 (hq K _ s (.refl hK) rfl (.cons ru (.cons (.bool _) (.cons (.bool _) .nil))))) rfl rfl rfl (fun _ _ _ => rfl) fun L qn code => ?_
  refine runs_if_false (evT_cmp (ev_name rfl) ev_none (evC_is rfl)) (runs_pop ?_)
  refine runs_if_true (evT_bools (evA_or_true (evT_bool (ev_name rfl)))) ?_
  refine runs_assign ((Ev.ofN (evn_slice (.of (ev_name rfl) rfl) evP_none evP_none (evP_some ev_int) (by decide))).eq (b' := .list ks) (congrArg D.list hk)) ?_
  refine runs_if_true (evT_bool (ev_name rfl)) ?_
  intro K1 s1 E f
  refine wpS_cons (wpAny_Assign_Name ?_ rfl)
  obtain ⟨fa, of, fdf, p1, p2, p3, hload⟩ := load_fn f.ok (f := "str_if_bytes") (i := 1) (by simp [fnTab]) rfl (by decide)
  refine raw2 f.ok (T := "map") (by simp [biTab]) (hload _ _ _ ?_)
  refine f.ok.ev (d := .list ks) (ev_name rfl) fun K2 v s2 n2 rv => ?_
  cases rv with
  | @list x ox us m0 _ g1 g2 g3 g4 g5 g6 =>
  have f2 := f.next n2
  have gx := f2.ok.inH _ _ g1
  have hli : s2.heap.IsList x us.toArray := ⟨ox, gx, g2, m0, g3⟩
  refine call_map (wpAny_pyIter_list hli ?_)
  intro h' m TI hmat hTI fm fTI dm hkp
  have fI := get_size s2.heap
  have k1 : ∀ b o, s2.heap.get? b = some o → h'.get? b = some o := fun b o e => hkp b o (Heap.get?_push_of_some _ e)
  have hit : h'.IsListIter s2.heap.objs.size x 0 := ⟨_, hkp _ _ (Heap.get?_push_size _ rfl), rfl, rfl⟩
  have fm2 : s2.heap.get? m = none := by
    cases e : s2.heap.get? m with
    | none => rfl
    | some o => rw [Heap.get?_push_of_some _ e] at fm; cases fm
  have fTI2 : s2.heap.get? TI = none := by
    cases e : s2.heap.get? TI with
    | none => rfl
    | some o => rw [Heap.get?_push_of_some _ e] at fTI; cases fTI
  have nem : m ≠ s2.heap.objs.size := fun e => by rw [e, Heap.get?_push_size _ rfl] at fm; cases fm
  have neT : TI ≠ s2.heap.objs.size := fun e => by rw [e, Heap.get?_push_size _ rfl] at fTI; cases fTI
  have n3 : Next K2 s2 K2 { s2 with heap := h' } := .keep f2.ok.inH (.of s2.toks k1)
  have f3 := f2.next n3
  have al0 := ns_alive f2
  have ce0 : ∀ n b, (fenv 3 L a qn code).cells.lookup n = some b → ∃ o, s2.heap.get? b = some o := fun n b h => let ⟨⟨v, o, e, _⟩, _⟩ := f2.cel n b h; ⟨o, e⟩
  refine store_core f3 rfl fun s4 wr => ?_
  have f4 := f3.storedRaw (ρ' := [("decode_string_values", .bool false), ("decode_keys", .bool true), ("response", .list ds)]) wr (fun y d h => by
    have hy : y ≠ "keys" := fun e => by subst e; cases h
    refine ⟨hy, ?_⟩
    show List.lookup y (("keys", D.list ks) :: [("decode_string_values", .bool false), ("decode_keys", .bool true), ("response", .list ds)]) = some d
    rw [lookup_two, if_neg hy]; exact h) rfl
  have keep4 : ∀ b o, s2.heap.get? b = none → h'.get? b = some o → s4.heap.get? b = some o := fun b o hf e => wr.keeps f3 hf al0 ce0 e
  have hm4 : MapAt s4.heap m TI fa := keep4 _ _ fm2 hmat
  have hTI4 := keep4 _ _ fTI2 hTI
  have hit4 : s4.heap.IsListIter s2.heap.objs.size x 0 := let ⟨oI, e1, e2⟩ := hit; ⟨oI, keep4 _ _ fI e1, e2⟩
  refine wpAny_execs_nil ?_
  -- values = response[1::2]
  refine wpS_cons (wpAny_Assign_Name (f4.ok.ev ((Ev.ofN (evn_slice (.of (ev_name rfl) rfl) (evP_some ev_int) evP_none (evP_some ev_int) (by decide))).eq (b' := .list vs') (congrArg D.list hv)) fun K5 v5 s5 n5 r5 => ?_) rfl)
  have f5 := f4.next n5
  have st5 := fun (Q : Unit → Shared → Prop) q => @store_core prog w _ _ K5 s5 "values" v5 Q E f5 rfl q
  refine st5 _ fun s6 wr6 => ?_
  have f6 := f5.stored wr6 r5 rfl
  have keep6 : ∀ b o, s2.heap.get? b = none → s4.heap.get? b = some o → s6.heap.get? b = some o := fun b o hf e => wr6.keeps f5 hf al0 ce0 (n5.keeps.get e)
  have hm6 : MapAt s6.heap m TI fa := keep6 _ _ fm2 hm4
  have hTI6 := keep6 _ _ fTI2 hTI4
  have hit6 : s6.heap.IsListIter s2.heap.objs.size x 0 := let ⟨oI, e1, e2⟩ := hit4; ⟨oI, keep6 _ _ fI e1, e2⟩
  have va6 : VarAt (fenv 3 L a qn code) s6.heap "keys" (.ref m) := wr6.oth _ _ (by decide) (wr.at_.keeps n5.keeps)
  refine wpS_cons (wpAny_If (f6.ok.evT (b := false) (evT_bool (ev_name rfl)) fun K7 s7 n7 => ?_))
  refine wpAny_execs_nil ?_
  have f7 := f6.next n7
  have hm7 : MapAt s7.heap m TI fa := n7.keeps.get hm6
  have hTI7 := n7.keeps.get hTI6
  have hit7 : s7.heap.IsListIter s2.heap.objs.size x 0 := let ⟨oI, e1, e2⟩ := hit6; ⟨oI, n7.keeps.get e1, e2⟩
  refine wpS_cons (wpAny_Return_some ?_)
  refine raw1 f7.ok (T := "dict") (by simp [biTab]) ?_
  refine raw2 f7.ok (T := "zip") (by simp [biTab]) ?_
  refine wpAny_Name (load_var f7.ok.env (va6.keeps n7.keeps) ?_) (by decide)
  refine f7.ok.ev (d := .list vs') (ev_name rfl) fun K8 v8 s8 n8 r8 => ?_
  cases r8 with
  | @list y oy us8 m8 _ j1 j2 j3 j4 j5 j6 =>
  have f8 := f7.next n8
  have gy := f8.ok.inH _ _ j1
  have hly : s8.heap.IsList y us8.toArray := ⟨oy, gy, j2, m8, j3⟩
  have hm8 : MapAt s8.heap m TI fa := n8.keeps.get hm7
  have hTI8 := n8.keeps.get hTI7
  have hit8 : s8.heap.IsListIter s2.heap.objs.size x 0 := let ⟨oI, e1, e2⟩ := hit7; ⟨oI, n8.keeps.get e1, e2⟩
  have hTm : s8.TypeIs (.ref m) "map" := ⟨_, hm8, rfl⟩
  have fI8 := get_size s8.heap
  refine call_zip (wpAny_pyIter_slot hTm slot_map_iter (wpAny_call_entry slot_map_iter hTm entry_map_iter ?_ (args_map_iter_1 _)))
  show wpAny _ _ (ret (.ref m)) _ _ s8
  refine wpAny_pure ⟨_, rfl, "map", _, hTm, slot_map_next.lookup, ?_⟩
  refine wpAny_pyIter_list hly ?_
  intro h9 z ZI ZO hzat hZI hZO fz fZI fZO d1 d2 d3 hk9
  have k9 : ∀ b o, s8.heap.get? b = some o → h9.get? b = some o := fun b o e => hk9 b o (Heap.get?_push_of_some _ e)
  have n9 : Next K8 s8 K8 { s8 with heap := h9 } := .keep f8.ok.inH (.of s8.toks k9)
  have f9 := f8.next n9
  have hm9 : MapAt h9 m TI fa := k9 _ _ hm8
  have hTI9 := k9 _ _ hTI8
  have hit9 : h9.IsListIter s2.heap.objs.size x 0 := let ⟨oI, e1, e2⟩ := hit8; ⟨oI, k9 _ _ e1, e2⟩
  have hit2 : h9.IsListIter s8.heap.objs.size y 0 := ⟨_, hk9 _ _ (Heap.get?_push_size _ rfl), rfl, rfl⟩
  have down : ∀ {b : Addr}, (s8.heap.push { cls := .type "list_iterator", data := .fields #[.ref y, .int 0 0] }).get? b = none → s8.heap.get? b = none := fun {b} h => by
    cases e : s8.heap.get? b with
    | none => rfl
    | some o => rw [Heap.get?_push_of_some _ e] at h; cases h
  have hneI : ∀ {b : Addr}, (s8.heap.push { cls := .type "list_iterator", data := .fields #[.ref y, .int 0 0] }).get? b = none → b ≠ s8.heap.objs.size := fun h e => by rw [e, Heap.get?_push_size _ rfl] at h; cases h
  have hmem : ∀ {b : Addr}, s8.heap.get? b = none → b ∉ m :: TI :: [s2.heap.objs.size] := fun h hm => by
    rcases List.mem_cons.mp hm with e | hm
    · subst e; rw [show s8.heap.get? _ = _ from hm8] at h; cases h
    rcases List.mem_cons.mp hm with e | hm
    · subst e; rw [hTI8] at h; cases h
    rcases List.mem_cons.mp hm with e | hm
    · subst e; obtain ⟨o, e, _⟩ := hit8; rw [e] at h; cases h
    · cases hm
  have hmem2 : ∀ {b : Addr}, (s8.heap.push { cls := .type "list_iterator", data := .fields #[.ref y, .int 0 0] }).get? b = none → b ∉ (m :: TI :: [s2.heap.objs.size]) ++ [s8.heap.objs.size] := fun h hm => by
    rcases List.mem_append.mp hm with hm | hm
    · exact hmem (down h) hm
    · rcases List.mem_cons.mp hm with e | hm
      · exact hneI h e
      · cases hm
  have hAA : Fit (A.deeper (fenv 3 L a qn code)).in1.in1.in1.in1 (n + 1) := ((Fit.deeper (env := fenv 3 L a qn code) hA).in1.in1.in1.in1)
  have hlen : us.length = l.length := by rw [g4.length, hks, List.length_map]
  have sub25 : Sub K2 K8 := ((n5.sub.trans n7.sub).trans n8.sub)
  have S1 : Src1 prog w (A.deeper (fenv 3 L a qn code)).in1.in1.in1 m (m :: TI :: [s2.heap.objs.size]) (l.map fun p => D.str p.2.1) _ := src_map (A := (A.deeper (fenv 3 L a qn code)).in1.in1.in1) (K₀ := K8) (es := l.map fun p => D.str p.2.1) (fa := fa) (src_list (A := (A.deeper (fenv 3 L a qn code)).in1.in1.in1.in1) hA.hand g1 g2 g3 g4 (Nat.ne_of_lt (Heap.lt_size gx))) (by rw [hks, List.length_map, List.length_map]) (fun h => nem (by simpa using h)) (fun h => neT (by simpa using h))
    (fun k d e K' s' v' Q' E' hd he hs hi hr hq => by
      rw [hks, List.getElem?_map] at hd
      rw [List.getElem?_map] at he
      obtain ⟨p, hp, rfl⟩ := Option.map_eq_some_iff.mp hd
      rw [hp] at he
      cases he
      refine wpAny_call ?_
      refine spec_sib (A := (A.deeper (fenv 3 L a qn code)).in1.in1.in1.in1) hAA (hl p (List.mem_of_getElem? hp)) B KB fa of fdf K' s' [v'] [] _ hB (f8.ok.kb.trans hs) p1 p2 p3 (fun b o e => hi b o (hs b o (f8.ok.kb b o (hB.all b o e)))) hi (.cons hr .nil) .nil fun K'' v'' s'' n'' r'' => hq K'' v'' s'' n'' r'')
  have S2 : Src1 prog w (A.deeper (fenv 3 L a qn code)).in1.in1.in1 s8.heap.objs.size [s8.heap.objs.size] (l.map fun p => p.2.2) _ := src_list (A := (A.deeper (fenv 3 L a qn code)).in1.in1.in1) hA.hand j1 j2 j3 (hvs ▸ j4) (Nat.ne_of_lt (Heap.lt_size gy))
  have SS := Srcs.two S1 S2 (fun b hb hm => by
    rcases List.mem_cons.mp hm with e | hm
    · subst e; exact hmem fI8 hb
    · cases hm) (by rw [List.length_map, List.length_map])
  have hzip : (l.map fun p => D.str p.2.1).zip (l.map fun p => p.2.2) = ((l.map fun p => ((.s p.2.1 : Key), p.2.2)).map fun p => (keyD p.1, p.2)) := by
    rw [List.map_map, List.zip_map']; rfl
  rw [hzip] at SS
  have frW : ∀ b ∈ (m :: TI :: [s2.heap.objs.size]) ++ [s8.heap.objs.size], s.heap.get? b = none ∧ K8 b = none := fun b hb => by
    have c2 : ∀ {b : Addr} {o : Obj}, s2.heap.get? b = none → h'.get? b = some o → s.heap.get? b = none ∧ K8 b = none := fun {b o} hb e => by
      refine ⟨(fresh_anchor f2 hb).2, ?_⟩
      have k2 := none_of_fresh f2.ok.inH hb
      have e4 := keep4 b o hb e
      have e6 := keep6 b o hb e4
      exact n8.notIn (n7.notIn (n5.notIn k2 e4) e6) (n7.keeps.get e6)
    rcases List.mem_append.mp hb with hb | hb
    · rcases List.mem_cons.mp hb with rfl | hb
      · exact c2 fm2 hmat
      rcases List.mem_cons.mp hb with rfl | hb
      · exact c2 fTI2 hTI
      rcases List.mem_cons.mp hb with rfl | hb
      · obtain ⟨o, e, _⟩ := hit; exact c2 fI e
      · cases hb
    · rcases List.mem_cons.mp hb with rfl | hb
      · exact ⟨(fresh_anchor f8 fI8).2, none_of_fresh f8.ok.inH fI8⟩
      · cases hb
  have frA : ∀ b ∈ z :: ZI :: ZO :: ((m :: TI :: [s2.heap.objs.size]) ++ [s8.heap.objs.size]), s.heap.get? b = none ∧ K8 b = none := fun b hb => by
    rcases List.mem_cons.mp hb with rfl | hb
    · exact ⟨(fresh_anchor f8 (down fz)).2, none_of_fresh f8.ok.inH (down fz)⟩
    rcases List.mem_cons.mp hb with rfl | hb
    · exact ⟨(fresh_anchor f8 (down fZI)).2, none_of_fresh f8.ok.inH (down fZI)⟩
    rcases List.mem_cons.mp hb with rfl | hb
    · exact ⟨(fresh_anchor f8 (down fZO)).2, none_of_fresh f8.ok.inH (down fZO)⟩
    exact frW b hb
  have ok9 : Ok prog w ⟨A.deeper (fenv 3 L a qn code), fenv 3 L a qn code, _, _, B, KB⟩ K8 { s8 with heap := h9 } := f9.ok
  have dz := fun (Q : Value → Shared → Prop) q => dict_zip (E := E) (Q := Q) (xs := l.map fun p => ((.s p.2.1 : Key), p.2.2)) ok9 SS (by rw [List.length_map]; exact hz) hzat hZI hZO d1 d2 d3 (hmem2 fz) (hmem2 fZI) (hmem2 fZO) ⟨⟨hm9, hTI9, ⟨hit9, sub25, n9.inH⟩, .refl _, n9.inH⟩, ⟨hit2, .refl _, n9.inH⟩⟩ (fun b hb => (frA b hb).2) q
  refine dz _ fun Ka b sa ta hb hba tb => ?_
  have st := f9.stp.over ta (fun b hb => .inr (frA b hb).1) f9.alive
  exact q Ka b sa (st.toNext fun b hb => nomatch hb) (fresh_anchor f9 hb).2 hba tb
end
end Mine
namespace Mine
section
variable {prog : Program} {w : World} {α : Anc} {R : Flow → Shared → Prop} {bs : List (List Stmt)} {rest : List Stmt} {A : Around} {env : Env} {ρ : List (Str × D)} {O : List (Str × Addr × D)} {B : Heap} {KB : KM}
/-! ## the rules again, contexts written out -/
theorem r_assign {x : Str} {px pos : Pos} {e : Expr} {d : D} (he : Ev prog w ⟨A, env, ρ, O, B, KB⟩ e d) (hr : Runs prog w ⟨A, env, (x, d) :: ρ, O, B, KB⟩ α (rest :: bs) R)
    (hs : swapsWith e (some (.Name x px)) pos.line env = pure false := by rfl) (hx : slot env x = true := by rfl) (hO : O.lookup x = none := by rfl) : Runs prog w ⟨A, env, ρ, O, B, KB⟩ α ((.Assign [.Name x px] e pos :: rest) :: bs) R :=
  runs_assign (c := ⟨A, env, ρ, O, B, KB⟩) he hr hs hx hO
theorem r_own {x : Str} {px pos : Pos} {e : Expr} {d : D} (he : EvN prog w ⟨A, env, ρ, O, B, KB⟩ e d) (hr : ∀ a, a ∉ α.W → Runs prog w ⟨A, env, ρ, (x, a, d) :: O, B, KB⟩ α (rest :: bs) R)
    (hs : swapsWith e (some (.Name x px)) pos.line env = pure false := by rfl) (hx : slot env x = true := by rfl) (hρ : ρ.lookup x = none := by rfl) : Runs prog w ⟨A, env, ρ, O, B, KB⟩ α ((.Assign [.Name x px] e pos :: rest) :: bs) R :=
  runs_assign_own (c := ⟨A, env, ρ, O, B, KB⟩) he hr hs hx hρ
theorem r_comp {elt tgt iter : Expr} {ifs : List Expr} {scope : Scope} {cpos : Pos} {T : Type} {xs : List T} {φ : T → D} {p : T → Bool} {g : T → D} {β : T → List (Str × D)} {x : Str} {px pos : Pos} (ρ' : List (Str × D))
    (hit : EvIt prog w ⟨A, env, ρ, O, B, KB⟩ tgt iter (xs.map φ)) (hc : CompOk ⟨A, env, ρ, O, B, KB⟩ scope) (hρ' : Passes env scope ρ ρ')
    (hput : ∀ d ∈ xs, ∀ C, Puts prog w A (compEnvC scope (gath env scope.names []) C env) tgt (φ d) (β d)) (hβ : ∀ d ∈ xs, locals? scope (β d) = true)
    (htest : ∀ d ∈ xs, ∀ C, EvF prog w ⟨A, compEnvC scope (gath env scope.names []) C env, β d ++ ρ', [], B, KB⟩ ifs (p d)) (helt : ∀ d ∈ xs, p d = true → ∀ C, Ev prog w ⟨A, compEnvC scope (gath env scope.names []) C env, β d ++ ρ', [], B, KB⟩ elt (g d))
    (hr : ∀ a, a ∉ α.W → Runs prog w ⟨A, env, ρ, (x, a, .list ((xs.filter p).map g)) :: O, B, KB⟩ α (rest :: bs) R)
    (hs : swapsWith (.ListComp elt [⟨tgt, iter, ifs, 0⟩] scope cpos) (some (.Name x px)) pos.line env = pure true := by rfl) (hx : slot env x = true := by rfl) (hρ : ρ.lookup x = none := by rfl)
    (hf : ∀ x, foldedSetIterable iter env x = pure x := by intro _; rfl) : Runs prog w ⟨A, env, ρ, O, B, KB⟩ α ((.Assign [.Name x px] (.ListComp elt [⟨tgt, iter, ifs, 0⟩] scope cpos) pos :: rest) :: bs) R :=
  runs_comp (c := ⟨A, env, ρ, O, B, KB⟩) ρ' hit hc hρ' hput hβ htest helt hr hs hx hρ hf
theorem r_dcomp {kx vx tgt iter : Expr} {ifs : List Expr} {scope : Scope} {cpos : Pos} {T : Type} {xs : List T} {φ : T → D} {p : T → Bool} {kf : T → Key} {vf : T → D} {β : T → List (Str × D)} {x : Str} {px pos : Pos} (ρ' : List (Str × D))
    (hit : EvIt prog w ⟨A, env, ρ, O, B, KB⟩ tgt iter (xs.map φ)) (hc : CompOk ⟨A, env, ρ, O, B, KB⟩ scope) (hρ' : Passes env scope ρ ρ')
    (hput : ∀ d ∈ xs, ∀ C, Puts prog w A (compEnvC scope (gath env scope.names []) C env) tgt (φ d) (β d)) (hβ : ∀ d ∈ xs, locals? scope (β d) = true)
    (htest : ∀ d ∈ xs, ∀ C, EvF prog w ⟨A, compEnvC scope (gath env scope.names []) C env, β d ++ ρ', [], B, KB⟩ ifs (p d)) (helt : ∀ d ∈ xs, p d = true → ∀ C, Ev prog w ⟨A, compEnvC scope (gath env scope.names []) C env, β d ++ ρ', [], B, KB⟩ kx (keyD (kf d)) ∧ Ev prog w ⟨A, compEnvC scope (gath env scope.names []) C env, β d ++ ρ', [], B, KB⟩ vx (vf d))
    (hr : ∀ a, a ∉ α.W → Runs prog w ⟨A, env, ρ, (x, a, mkD (dfold kf vf (xs.filter p))) :: O, B, KB⟩ α (rest :: bs) R)
    (hs : swapsWith (.DictComp kx vx [⟨tgt, iter, ifs, 0⟩] scope cpos) (some (.Name x px)) pos.line env = pure true := by rfl) (hx : slot env x = true := by rfl) (hρ : ρ.lookup x = none := by rfl)
    (hf : ∀ x, foldedSetIterable iter env x = pure x := by intro _; rfl) : Runs prog w ⟨A, env, ρ, O, B, KB⟩ α ((.Assign [.Name x px] (.DictComp kx vx [⟨tgt, iter, ifs, 0⟩] scope cpos) pos :: rest) :: bs) R :=
  runs_dcomp (c := ⟨A, env, ρ, O, B, KB⟩) ρ' hit hc hρ' hput hβ htest helt hr hs hx hρ hf
theorem e_comp {elt tgt iter : Expr} {ifs : List Expr} {scope : Scope} {pos : Pos} {T : Type} {xs : List T} {φ : T → D} {p : T → Bool} {g : T → D} {β : T → List (Str × D)} (ρ' : List (Str × D))
    (hit : EvIt prog w ⟨A, env, ρ, O, B, KB⟩ tgt iter (xs.map φ)) (hc : CompOk ⟨A, env, ρ, O, B, KB⟩ scope) (hρ : Passes env scope ρ ρ')
    (hput : ∀ d ∈ xs, ∀ C, Puts prog w A (compEnvC scope (gath env scope.names []) C env) tgt (φ d) (β d)) (hβ : ∀ d ∈ xs, locals? scope (β d) = true)
    (htest : ∀ d ∈ xs, ∀ C, EvF prog w ⟨A, compEnvC scope (gath env scope.names []) C env, β d ++ ρ', [], B, KB⟩ ifs (p d)) (helt : ∀ d ∈ xs, p d = true → ∀ C, Ev prog w ⟨A, compEnvC scope (gath env scope.names []) C env, β d ++ ρ', [], B, KB⟩ elt (g d))
    (hs : ∀ x, foldedSetIterable iter env x = pure x := by intro _; rfl) : EvN prog w ⟨A, env, ρ, O, B, KB⟩ (.ListComp elt [⟨tgt, iter, ifs, 0⟩] scope pos) (.list ((xs.filter p).map g)) :=
  evn_comp (c := ⟨A, env, ρ, O, B, KB⟩) hit hc hρ hput hβ htest helt hs
theorem e_dcomp {kx vx tgt iter : Expr} {ifs : List Expr} {scope : Scope} {pos : Pos} {T : Type} {xs : List T} {φ : T → D} {p : T → Bool} {kf : T → Key} {vf : T → D} {β : T → List (Str × D)} (ρ' : List (Str × D))
    (hit : EvIt prog w ⟨A, env, ρ, O, B, KB⟩ tgt iter (xs.map φ)) (hc : CompOk ⟨A, env, ρ, O, B, KB⟩ scope) (hρ : Passes env scope ρ ρ')
    (hput : ∀ d ∈ xs, ∀ C, Puts prog w A (compEnvC scope (gath env scope.names []) C env) tgt (φ d) (β d)) (hβ : ∀ d ∈ xs, locals? scope (β d) = true)
    (htest : ∀ d ∈ xs, ∀ C, EvF prog w ⟨A, compEnvC scope (gath env scope.names []) C env, β d ++ ρ', [], B, KB⟩ ifs (p d)) (helt : ∀ d ∈ xs, p d = true → ∀ C, Ev prog w ⟨A, compEnvC scope (gath env scope.names []) C env, β d ++ ρ', [], B, KB⟩ kx (keyD (kf d)) ∧ Ev prog w ⟨A, compEnvC scope (gath env scope.names []) C env, β d ++ ρ', [], B, KB⟩ vx (vf d))
    (hs : ∀ x, foldedSetIterable iter env x = pure x := by intro _; rfl) : EvN prog w ⟨A, env, ρ, O, B, KB⟩ (.DictComp kx vx [⟨tgt, iter, ifs, 0⟩] scope pos) (mkD (dfold kf vf (xs.filter p))) :=
  evn_dcomp (c := ⟨A, env, ρ, O, B, KB⟩) hit hc hρ hput hβ htest helt hs
theorem r_seal (x : Str) {a : Addr} {d : D} {O' : List (Str × Addr × D)} (hr : Runs prog w ⟨A, env, (x, d) :: ρ, O', B, KB⟩ α bs R) (hW : a ∉ α.W) (hO : But x O O') (hx : O.lookup x = some (a, d) := by rfl) : Runs prog w ⟨A, env, ρ, O, B, KB⟩ α bs R :=
  runs_seal (c := ⟨A, env, ρ, O, B, KB⟩) x hr hW hx hO.get
theorem r_less {ρ' : List (Str × D)} {O' : List (Str × Addr × D)} (hr : Runs prog w ⟨A, env, ρ', O', B, KB⟩ α bs R) (hρ : Less ρ ρ') (hO : Less O O') : Runs prog w ⟨A, env, ρ, O, B, KB⟩ α bs R :=
  runs_less (c := ⟨A, env, ρ, O, B, KB⟩) hr hρ.get hO.get
theorem r_if {t : Expr} {b : Bool} {body orelse : List Stmt} {pos : Pos} (ht : EvT prog w ⟨A, env, ρ, O, B, KB⟩ t b) (hr : Runs prog w ⟨A, env, ρ, O, B, KB⟩ α ((if b then body else orelse) :: rest :: bs) R) : Runs prog w ⟨A, env, ρ, O, B, KB⟩ α ((.If t body orelse pos :: rest) :: bs) R :=
  runs_if (c := ⟨A, env, ρ, O, B, KB⟩) borrow_refl ht hr
theorem r_true {t : Expr} {body orelse : List Stmt} {pos : Pos} (ht : EvT prog w ⟨A, env, ρ, O, B, KB⟩ t true) (hr : Runs prog w ⟨A, env, ρ, O, B, KB⟩ α (body :: rest :: bs) R) : Runs prog w ⟨A, env, ρ, O, B, KB⟩ α ((.If t body orelse pos :: rest) :: bs) R := r_if ht hr
theorem r_false {t : Expr} {body orelse : List Stmt} {pos : Pos} (ht : EvT prog w ⟨A, env, ρ, O, B, KB⟩ t false) (hr : Runs prog w ⟨A, env, ρ, O, B, KB⟩ α (orelse :: rest :: bs) R) : Runs prog w ⟨A, env, ρ, O, B, KB⟩ α ((.If t body orelse pos :: rest) :: bs) R := r_if ht hr
/-- a test that reads own objects -/
theorem r_lent {ρ' : List (Str × D)} {O' : List (Str × Addr × D)} {t : Expr} {body : List Stmt} {pos : Pos} (hb : Borrow prog w ⟨A, env, ρ, O, B, KB⟩ ρ' O') (ht : EvT prog w ⟨A, env, ρ', O', B, KB⟩ t false) (hr : Runs prog w ⟨A, env, ρ, O, B, KB⟩ α (rest :: bs) R) : Runs prog w ⟨A, env, ρ, O, B, KB⟩ α ((.If t body [] pos :: rest) :: bs) R :=
  runs_if (c := ⟨A, env, ρ, O, B, KB⟩) (b := false) hb ht (runs_pop hr)
theorem b_one (x : Str) {a : Addr} {d : D} {O₁ O' : List (Str × Addr × D)} {ρ' : List (Str × D)} (h : Borrow prog w ⟨A, env, (x, d) :: ρ, O₁, B, KB⟩ ρ' O') (hO : But x O O₁) (hx : O.lookup x = some (a, d) := by rfl) : Borrow prog w ⟨A, env, ρ, O, B, KB⟩ ρ' O' :=
  borrow_one (c := ⟨A, env, ρ, O, B, KB⟩) x h hx hO.get
theorem b_end : Borrow prog w ⟨A, env, ρ, O, B, KB⟩ ρ O := borrow_refl (c := ⟨A, env, ρ, O, B, KB⟩)
theorem r_ret {e : Expr} {d : D} {pos : Pos} (he : Ev prog w ⟨A, env, ρ, O, B, KB⟩ e d) (h : ∀ K' v s', Stp α.W α.K α.s K' s' → Rep prog w K' v d → R (.ret v) s') : Runs prog w ⟨A, env, ρ, O, B, KB⟩ α ((.Return (some e) pos :: rest) :: bs) R := runs_return (c := ⟨A, env, ρ, O, B, KB⟩) he h
theorem r_append {x : Str} {px ap cp pos : Pos} {e : Expr} {d : D} {a : Addr} {ds : List D} (he : Ev prog w ⟨A, env, ρ, O, B, KB⟩ e d) (hr : Runs prog w ⟨A, env, ρ, (x, a, .list (ds ++ [d])) :: O, B, KB⟩ α (rest :: bs) R) (hz : (ds ++ [d]).length ≤ lim) (hx : O.lookup x = some (a, .list ds) := by rfl)
    (hbase : attributeBase (.Name x px) "append" env (eval (.Name x px) env) = eval (.Name x px) env := by rfl) (hline : (ap.endLine == cp.line) = true := by rfl) (hse : starEach [e] env = (false, eval e env) :: starEach [] env := by rfl)
    (hfew : ((backTo cp (starEach [e] env)).all (fun x => !x.1) && (backToKw cp (keywordEach [] env)).all (fun x => x.1.isSome) && decide ([e].length + ([] : List Keyword).length + (if ([] : List Keyword).isEmpty then 0 else 1) < 30)) = true := by rfl)
    (hi : interactive env = false := by rfl) (hs : swapsWith (.Call (.Attribute (.Name x px) "append" ap) [e] [] cp) none pos.line env = pure false := by rfl) (hd : (x == ("__debug__" : Str)) = false := by decide) :
    Runs prog w ⟨A, env, ρ, O, B, KB⟩ α ((.Expr (.Call (.Attribute (.Name x px) "append" ap) [e] [] cp) pos :: rest) :: bs) R := runs_append (c := ⟨A, env, ρ, O, B, KB⟩) he hr hx hz hbase hline hse hfew hi hs hd
theorem r_setD {x : Str} {px sp pos : Pos} {ke e : Expr} {k : Key} {d : D} {a : Addr} {l : List (Key × D)} (he : Ev prog w ⟨A, env, ρ, O, B, KB⟩ e d) (hk : Ev prog w ⟨A, env, ρ, O, B, KB⟩ ke (keyD k)) (hr : Runs prog w ⟨A, env, ρ, (x, a, mkD (put l k d)) :: O, B, KB⟩ α (rest :: bs) R) (hz : (put l k d).length ≤ lim) (hx : O.lookup x = some (a, mkD l) := by rfl)
    (hs : swapsWith e (some (.Subscript (.Name x px) ke sp)) pos.line env = pure false := by rfl) (hd : (x == ("__debug__" : Str)) = false := by decide) :
    Runs prog w ⟨A, env, ρ, O, B, KB⟩ α ((.Assign [.Subscript (.Name x px) ke sp] e pos :: rest) :: bs) R := runs_setD (c := ⟨A, env, ρ, O, B, KB⟩) he hk hr hx hz hs hd
theorem r_setL {x : Str} {px sp pos : Pos} {ke e : Expr} {k : Int} {d : D} {a : Addr} {ds : List D} (he : Ev prog w ⟨A, env, ρ, O, B, KB⟩ e d) (hk : Ev prog w ⟨A, env, ρ, O, B, KB⟩ ke (.int k)) (h0 : 0 ≤ k) (hn : k < ds.length) (hr : Runs prog w ⟨A, env, ρ, (x, a, .list (ds.set k.toNat d)) :: O, B, KB⟩ α (rest :: bs) R) (hx : O.lookup x = some (a, .list ds) := by rfl)
    (hs : swapsWith e (some (.Subscript (.Name x px) ke sp)) pos.line env = pure false := by rfl) (hd : (x == ("__debug__" : Str)) = false := by decide) :
    Runs prog w ⟨A, env, ρ, O, B, KB⟩ α ((.Assign [.Subscript (.Name x px) ke sp] e pos :: rest) :: bs) R := runs_setL (c := ⟨A, env, ρ, O, B, KB⟩) he hk h0 hn hr hx hs hd
theorem r_for {tgt iter : Expr} {body : List Stmt} {pos : Pos} {xs : List D} (ρI : Nat → List (Str × D)) (OI : Nat → List (Str × Addr × D)) {β : Nat → List (Str × D)}
    (hit : EvIt prog w ⟨A, env, ρ, O, B, KB⟩ tgt iter xs) (hput : ∀ i d, xs[i]? = some d → Puts prog w A env tgt d (β i)) (hk : ∀ i, Tgt env (OI i) (β i)) (h0 : Less ρ (ρI 0)) (h0' : Less O (OI 0)) (hadr : ∀ i, SameAddr (OI (i + 1)) (OI i))
    (hbody : ∀ i d α', xs[i]? = some d → Runs prog w ⟨A, env, β i ++ ρI i, OI i, B, KB⟩ α' [body] (fun f s' => f = .next ∧ ∃ K', Fr prog w ⟨A, env, ρI (i + 1), OI (i + 1), B, KB⟩ α' K' s'))
    {N : Nat} (hN : xs.length = N) (hr : Runs prog w ⟨A, env, ρI N, OI N, B, KB⟩ α (rest :: bs) R)
    (hs : ∀ x, foldedSetIterable iter env x = pure x := by intro _; rfl) : Runs prog w ⟨A, env, ρ, O, B, KB⟩ α ((.For tgt iter body [] pos :: rest) :: bs) R :=
  runs_for (c := ⟨A, env, ρ, O, B, KB⟩) ρI OI hit hput (fun i => (hk i).get) h0.get h0'.get (fun i => (hadr i).get) hbody hN hr hs
/-- the end of a turn -/
theorem r_turn {ρ' : List (Str × D)} {O' : List (Str × Addr × D)} (hρ : Less ρ ρ') (hO : Less O O') : Runs prog w ⟨A, env, ρ, O, B, KB⟩ α [[]] (fun f s' => f = .next ∧ ∃ K', Fr prog w ⟨A, env, ρ', O', B, KB⟩ α K' s') :=
  runs_pop (runs_end fun K s f => ⟨rfl, K, f.less hρ.get hO.get⟩)

/-! ## **options -/
theorem nsSet_one {E : Value → Shared → Prop} {s : Shared} {Dd : Addr} {k : Str} {v : Value} {Q : Unit → Shared → Prop} (ho : s.heap.get? Dd = some { cls := .type "dict", data := .dict #[] })
    (q : ∀ h', h'.DictOf (keyKind prog w) Dd [(.s k, v)] → Heap.SameBut Dd s.heap h' → Q () { s with heap := h', toks := s.toks + 1 }) : wpAny (model prog w) A (nsSet Dd k v) Q E s := by
  unfold nsSet
  refine wpAny_bind (wpAny_bind (wpAny_askSetting (wpAny_pure (wpAny_bind (wpAny_mkText (wpAny_bind (wpAny_loadPart ho ?_)))))))
  dsimp only
  have c : aRefKeyMayBeTheName k #[] = false := by rw [aRefKeyMayBeTheName_at]; simp
  rw [c]
  refine wpAny_updatePart ho (q _ ?_ (Heap.SameBut.update ..))
  refine ⟨_, #[⟨_, .str k s.toks, v⟩], _, Heap.get?_update_self _ ho rfl, ⟨rfl, rfl, rfl⟩, rfl, ?_, ?_, ?_⟩
  · intro e he
    rw [List.mem_toArray, List.mem_singleton] at he
    subst he
    exact ⟨.s k, strKind_is prog w k s.toks, rfl⟩
  · exact .cons (show (keyKind prog w).is (.s k) (.str k s.toks) = true from strKind_is prog w k s.toks) rfl .nil
  · simp
end
end Mine
namespace Mine
section
variable {prog : Program} {w : World}
def bs2 (v u : Value) : List (Str × Value) := [("response", v), ("options", u)]
theorem bind_o4 {B : Heap} {fd : FuncData} (h : FnIs B fd 4) {A : Around} {E : Value → Shared → Prop} {s : Shared} {v : Value} {Q : List (Str × Value) → Shared → Prop}
    (q : Q (bs2 v (.ref s.heap.objs.size)) { s with heap := s.heap.push { cls := .type "dict", data := .dict #[] } }) : wpAny (model prog w) A (bindArgs fd ⟨[v], []⟩) Q E s := by
  unfold bindArgs
  simp only [h.params, no_default h (by decide)]
  show wpAny _ _ (alloc _ >>= _) _ _ s
  refine wpAny_bind (wpAny_alloc ?_)
  exact wpAny_pure q
theorem bind_o5 {B : Heap} {fd : FuncData} (h : FnIs B fd 5) {A : Around} {E : Value → Shared → Prop} {s : Shared} {v : Value} {Q : List (Str × Value) → Shared → Prop}
    (q : Q (bs2 v (.ref s.heap.objs.size)) { s with heap := s.heap.push { cls := .type "dict", data := .dict #[] } }) : wpAny (model prog w) A (bindArgs fd ⟨[v], []⟩) Q E s := by
  unfold bindArgs
  simp only [h.params, no_default h (by decide)]
  show wpAny _ _ (alloc _ >>= _) _ _ s
  refine wpAny_bind (wpAny_alloc ?_)
  exact wpAny_pure q
theorem bind_o6 {B : Heap} {fd : FuncData} (h : FnIs B fd 6) {A : Around} {E : Value → Shared → Prop} {s : Shared} {v : Value} {Q : List (Str × Value) → Shared → Prop}
    (q : Q (bs2 v (.ref s.heap.objs.size)) { s with heap := s.heap.push { cls := .type "dict", data := .dict #[] } }) : wpAny (model prog w) A (bindArgs fd ⟨[v], []⟩) Q E s := by
  unfold bindArgs
  simp only [h.params, no_default h (by decide)]
  show wpAny _ _ (alloc _ >>= _) _ _ s
  refine wpAny_bind (wpAny_alloc ?_)
  exact wpAny_pure q
theorem bind_o7 {B : Heap} {fd : FuncData} (h : FnIs B fd 7) {A : Around} {E : Value → Shared → Prop} {s : Shared} {v : Value} {Q : List (Str × Value) → Shared → Prop}
    (q : Q (bs2 v (.ref s.heap.objs.size)) { s with heap := s.heap.push { cls := .type "dict", data := .dict #[] } }) : wpAny (model prog w) A (bindArgs fd ⟨[v], []⟩) Q E s := by
  unfold bindArgs
  simp only [h.params, no_default h (by decide)]
  show wpAny _ _ (alloc _ >>= _) _ _ s
  refine wpAny_bind (wpAny_alloc ?_)
  exact wpAny_pure q
theorem bind_o8 {B : Heap} {fd : FuncData} (h : FnIs B fd 8) {A : Around} {E : Value → Shared → Prop} {s : Shared} {v : Value} {Q : List (Str × Value) → Shared → Prop}
    (q : Q (bs2 v (.ref s.heap.objs.size)) { s with heap := s.heap.push { cls := .type "dict", data := .dict #[] } }) : wpAny (model prog w) A (bindArgs fd ⟨[v], []⟩) Q E s := by
  unfold bindArgs
  simp only [h.params, no_default h (by decide)]
  show wpAny _ _ (alloc _ >>= _) _ _ s
  refine wpAny_bind (wpAny_alloc ?_)
  exact wpAny_pure q
theorem bind_o9 {B : Heap} {fd : FuncData} (h : FnIs B fd 9) {A : Around} {E : Value → Shared → Prop} {s : Shared} {v : Value} {Q : List (Str × Value) → Shared → Prop}
    (q : Q (bs2 v (.ref s.heap.objs.size)) { s with heap := s.heap.push { cls := .type "dict", data := .dict #[] } }) : wpAny (model prog w) A (bindArgs fd ⟨[v], []⟩) Q E s := by
  unfold bindArgs
  simp only [h.params, no_default h (by decide)]
  show wpAny _ _ (alloc _ >>= _) _ _ s
  refine wpAny_bind (wpAny_alloc ?_)
  exact wpAny_pure q
theorem bind_o10 {B : Heap} {fd : FuncData} (h : FnIs B fd 10) {A : Around} {E : Value → Shared → Prop} {s : Shared} {v : Value} {Q : List (Str × Value) → Shared → Prop}
    (q : Q (bs2 v (.ref s.heap.objs.size)) { s with heap := s.heap.push { cls := .type "dict", data := .dict #[] } }) : wpAny (model prog w) A (bindArgs fd ⟨[v], []⟩) Q E s := by
  unfold bindArgs
  simp only [h.params, no_default h (by decide)]
  show wpAny _ _ (alloc _ >>= _) _ _ s
  refine wpAny_bind (wpAny_alloc ?_)
  exact wpAny_pure q
theorem bind_o11 {B : Heap} {fd : FuncData} (h : FnIs B fd 11) {A : Around} {E : Value → Shared → Prop} {s : Shared} {v : Value} {Q : List (Str × Value) → Shared → Prop}
    (q : Q (bs2 v (.ref s.heap.objs.size)) { s with heap := s.heap.push { cls := .type "dict", data := .dict #[] } }) : wpAny (model prog w) A (bindArgs fd ⟨[v], []⟩) Q E s := by
  unfold bindArgs
  simp only [h.params, no_default h (by decide)]
  show wpAny _ _ (alloc _ >>= _) _ _ s
  refine wpAny_bind (wpAny_alloc ?_)
  exact wpAny_pure q
theorem bind_o12 {B : Heap} {fd : FuncData} (h : FnIs B fd 12) {A : Around} {E : Value → Shared → Prop} {s : Shared} {v : Value} {Q : List (Str × Value) → Shared → Prop}
    (q : Q (bs2 v (.ref s.heap.objs.size)) { s with heap := s.heap.push { cls := .type "dict", data := .dict #[] } }) : wpAny (model prog w) A (bindArgs fd ⟨[v], []⟩) Q E s := by
  unfold bindArgs
  simp only [h.params, no_default h (by decide)]
  show wpAny _ _ (alloc _ >>= _) _ _ s
  refine wpAny_bind (wpAny_alloc ?_)
  exact wpAny_pure q
theorem bind_k4_0 {B : Heap} {fd : FuncData} (h : FnIs B fd 4) {A : Around} {E : Value → Shared → Prop} {s : Shared} {v u : Value} {Q : List (Str × Value) → Shared → Prop}
    (q : ∀ h', h'.DictOf (keyKind prog w) s.heap.objs.size [(.s "claim_min_idle_time", u)] → (∀ b o, s.heap.get? b = some o → h'.get? b = some o) → Q (bs2 v (.ref s.heap.objs.size)) { s with heap := h', toks := s.toks + 1 }) : wpAny (model prog w) A (bindArgs fd ⟨[v], [((("claim_min_idle_time" : Str), u) : Str × Value)]⟩) Q E s := by
  unfold bindArgs
  simp only [h.params, no_default h (by decide)]
  show wpAny _ _ (alloc _ >>= _) _ _ s
  refine wpAny_bind (wpAny_alloc (wpAny_bind (wpAny_bind (wpAny_bind (nsSet_one (k := "claim_min_idle_time") (Heap.get?_push_size _ rfl) fun h' hd hs => wpAny_pure (wpAny_pure (wpAny_pure ?_)))))))
  exact q h' hd fun b o e => (hs.2 b (Nat.ne_of_lt (Heap.lt_size e))).trans (Heap.get?_push_of_some _ e)
theorem bind_k5_0 {B : Heap} {fd : FuncData} (h : FnIs B fd 5) {A : Around} {E : Value → Shared → Prop} {s : Shared} {v u : Value} {Q : List (Str × Value) → Shared → Prop}
    (q : ∀ h', h'.DictOf (keyKind prog w) s.heap.objs.size [(.s "claim_min_idle_time", u)] → (∀ b o, s.heap.get? b = some o → h'.get? b = some o) → Q (bs2 v (.ref s.heap.objs.size)) { s with heap := h', toks := s.toks + 1 }) : wpAny (model prog w) A (bindArgs fd ⟨[v], [((("claim_min_idle_time" : Str), u) : Str × Value)]⟩) Q E s := by
  unfold bindArgs
  simp only [h.params, no_default h (by decide)]
  show wpAny _ _ (alloc _ >>= _) _ _ s
  refine wpAny_bind (wpAny_alloc (wpAny_bind (wpAny_bind (wpAny_bind (nsSet_one (k := "claim_min_idle_time") (Heap.get?_push_size _ rfl) fun h' hd hs => wpAny_pure (wpAny_pure (wpAny_pure ?_)))))))
  exact q h' hd fun b o e => (hs.2 b (Nat.ne_of_lt (Heap.lt_size e))).trans (Heap.get?_push_of_some _ e)
theorem bind_k5_1 {B : Heap} {fd : FuncData} (h : FnIs B fd 5) {A : Around} {E : Value → Shared → Prop} {s : Shared} {v u : Value} {Q : List (Str × Value) → Shared → Prop}
    (q : ∀ h', h'.DictOf (keyKind prog w) s.heap.objs.size [(.s "parse_justid", u)] → (∀ b o, s.heap.get? b = some o → h'.get? b = some o) → Q (bs2 v (.ref s.heap.objs.size)) { s with heap := h', toks := s.toks + 1 }) : wpAny (model prog w) A (bindArgs fd ⟨[v], [((("parse_justid" : Str), u) : Str × Value)]⟩) Q E s := by
  unfold bindArgs
  simp only [h.params, no_default h (by decide)]
  show wpAny _ _ (alloc _ >>= _) _ _ s
  refine wpAny_bind (wpAny_alloc (wpAny_bind (wpAny_bind (wpAny_bind (nsSet_one (k := "parse_justid") (Heap.get?_push_size _ rfl) fun h' hd hs => wpAny_pure (wpAny_pure (wpAny_pure ?_)))))))
  exact q h' hd fun b o e => (hs.2 b (Nat.ne_of_lt (Heap.lt_size e))).trans (Heap.get?_push_of_some _ e)
theorem bind_k6_0 {B : Heap} {fd : FuncData} (h : FnIs B fd 6) {A : Around} {E : Value → Shared → Prop} {s : Shared} {v u : Value} {Q : List (Str × Value) → Shared → Prop}
    (q : ∀ h', h'.DictOf (keyKind prog w) s.heap.objs.size [(.s "parse_justid", u)] → (∀ b o, s.heap.get? b = some o → h'.get? b = some o) → Q (bs2 v (.ref s.heap.objs.size)) { s with heap := h', toks := s.toks + 1 }) : wpAny (model prog w) A (bindArgs fd ⟨[v], [((("parse_justid" : Str), u) : Str × Value)]⟩) Q E s := by
  unfold bindArgs
  simp only [h.params, no_default h (by decide)]
  show wpAny _ _ (alloc _ >>= _) _ _ s
  refine wpAny_bind (wpAny_alloc (wpAny_bind (wpAny_bind (wpAny_bind (nsSet_one (k := "parse_justid") (Heap.get?_push_size _ rfl) fun h' hd hs => wpAny_pure (wpAny_pure (wpAny_pure ?_)))))))
  exact q h' hd fun b o e => (hs.2 b (Nat.ne_of_lt (Heap.lt_size e))).trans (Heap.get?_push_of_some _ e)
theorem bind_k7_0 {B : Heap} {fd : FuncData} (h : FnIs B fd 7) {A : Around} {E : Value → Shared → Prop} {s : Shared} {v u : Value} {Q : List (Str × Value) → Shared → Prop}
    (q : ∀ h', h'.DictOf (keyKind prog w) s.heap.objs.size [(.s "full", u)] → (∀ b o, s.heap.get? b = some o → h'.get? b = some o) → Q (bs2 v (.ref s.heap.objs.size)) { s with heap := h', toks := s.toks + 1 }) : wpAny (model prog w) A (bindArgs fd ⟨[v], [((("full" : Str), u) : Str × Value)]⟩) Q E s := by
  unfold bindArgs
  simp only [h.params, no_default h (by decide)]
  show wpAny _ _ (alloc _ >>= _) _ _ s
  refine wpAny_bind (wpAny_alloc (wpAny_bind (wpAny_bind (wpAny_bind (nsSet_one (k := "full") (Heap.get?_push_size _ rfl) fun h' hd hs => wpAny_pure (wpAny_pure (wpAny_pure ?_)))))))
  exact q h' hd fun b o e => (hs.2 b (Nat.ne_of_lt (Heap.lt_size e))).trans (Heap.get?_push_of_some _ e)
theorem bind_k8_0 {B : Heap} {fd : FuncData} (h : FnIs B fd 8) {A : Around} {E : Value → Shared → Prop} {s : Shared} {v u : Value} {Q : List (Str × Value) → Shared → Prop}
    (q : ∀ h', h'.DictOf (keyKind prog w) s.heap.objs.size [(.s "claim_min_idle_time", u)] → (∀ b o, s.heap.get? b = some o → h'.get? b = some o) → Q (bs2 v (.ref s.heap.objs.size)) { s with heap := h', toks := s.toks + 1 }) : wpAny (model prog w) A (bindArgs fd ⟨[v], [((("claim_min_idle_time" : Str), u) : Str × Value)]⟩) Q E s := by
  unfold bindArgs
  simp only [h.params, no_default h (by decide)]
  show wpAny _ _ (alloc _ >>= _) _ _ s
  refine wpAny_bind (wpAny_alloc (wpAny_bind (wpAny_bind (wpAny_bind (nsSet_one (k := "claim_min_idle_time") (Heap.get?_push_size _ rfl) fun h' hd hs => wpAny_pure (wpAny_pure (wpAny_pure ?_)))))))
  exact q h' hd fun b o e => (hs.2 b (Nat.ne_of_lt (Heap.lt_size e))).trans (Heap.get?_push_of_some _ e)
theorem bind_k9_0 {B : Heap} {fd : FuncData} (h : FnIs B fd 9) {A : Around} {E : Value → Shared → Prop} {s : Shared} {v u : Value} {Q : List (Str × Value) → Shared → Prop}
    (q : ∀ h', h'.DictOf (keyKind prog w) s.heap.objs.size [(.s "claim_min_idle_time", u)] → (∀ b o, s.heap.get? b = some o → h'.get? b = some o) → Q (bs2 v (.ref s.heap.objs.size)) { s with heap := h', toks := s.toks + 1 }) : wpAny (model prog w) A (bindArgs fd ⟨[v], [((("claim_min_idle_time" : Str), u) : Str × Value)]⟩) Q E s := by
  unfold bindArgs
  simp only [h.params, no_default h (by decide)]
  show wpAny _ _ (alloc _ >>= _) _ _ s
  refine wpAny_bind (wpAny_alloc (wpAny_bind (wpAny_bind (wpAny_bind (nsSet_one (k := "claim_min_idle_time") (Heap.get?_push_size _ rfl) fun h' hd hs => wpAny_pure (wpAny_pure (wpAny_pure ?_)))))))
  exact q h' hd fun b o e => (hs.2 b (Nat.ne_of_lt (Heap.lt_size e))).trans (Heap.get?_push_of_some _ e)
theorem bind_k10_0 {B : Heap} {fd : FuncData} (h : FnIs B fd 10) {A : Around} {E : Value → Shared → Prop} {s : Shared} {v u : Value} {Q : List (Str × Value) → Shared → Prop}
    (q : ∀ h', h'.DictOf (keyKind prog w) s.heap.objs.size [(.s "claim_min_idle_time", u)] → (∀ b o, s.heap.get? b = some o → h'.get? b = some o) → Q (bs2 v (.ref s.heap.objs.size)) { s with heap := h', toks := s.toks + 1 }) : wpAny (model prog w) A (bindArgs fd ⟨[v], [((("claim_min_idle_time" : Str), u) : Str × Value)]⟩) Q E s := by
  unfold bindArgs
  simp only [h.params, no_default h (by decide)]
  show wpAny _ _ (alloc _ >>= _) _ _ s
  refine wpAny_bind (wpAny_alloc (wpAny_bind (wpAny_bind (wpAny_bind (nsSet_one (k := "claim_min_idle_time") (Heap.get?_push_size _ rfl) fun h' hd hs => wpAny_pure (wpAny_pure (wpAny_pure ?_)))))))
  exact q h' hd fun b o e => (hs.2 b (Nat.ne_of_lt (Heap.lt_size e))).trans (Heap.get?_push_of_some _ e)
theorem bind_k11_0 {B : Heap} {fd : FuncData} (h : FnIs B fd 11) {A : Around} {E : Value → Shared → Prop} {s : Shared} {v u : Value} {Q : List (Str × Value) → Shared → Prop}
    (q : ∀ h', h'.DictOf (keyKind prog w) s.heap.objs.size [(.s "claim_min_idle_time", u)] → (∀ b o, s.heap.get? b = some o → h'.get? b = some o) → Q (bs2 v (.ref s.heap.objs.size)) { s with heap := h', toks := s.toks + 1 }) : wpAny (model prog w) A (bindArgs fd ⟨[v], [((("claim_min_idle_time" : Str), u) : Str × Value)]⟩) Q E s := by
  unfold bindArgs
  simp only [h.params, no_default h (by decide)]
  show wpAny _ _ (alloc _ >>= _) _ _ s
  refine wpAny_bind (wpAny_alloc (wpAny_bind (wpAny_bind (wpAny_bind (nsSet_one (k := "claim_min_idle_time") (Heap.get?_push_size _ rfl) fun h' hd hs => wpAny_pure (wpAny_pure (wpAny_pure ?_)))))))
  exact q h' hd fun b o e => (hs.2 b (Nat.ne_of_lt (Heap.lt_size e))).trans (Heap.get?_push_of_some _ e)
theorem bind_k12_0 {B : Heap} {fd : FuncData} (h : FnIs B fd 12) {A : Around} {E : Value → Shared → Prop} {s : Shared} {v u : Value} {Q : List (Str × Value) → Shared → Prop}
    (q : ∀ h', h'.DictOf (keyKind prog w) s.heap.objs.size [(.s "parse_detail", u)] → (∀ b o, s.heap.get? b = some o → h'.get? b = some o) → Q (bs2 v (.ref s.heap.objs.size)) { s with heap := h', toks := s.toks + 1 }) : wpAny (model prog w) A (bindArgs fd ⟨[v], [((("parse_detail" : Str), u) : Str × Value)]⟩) Q E s := by
  unfold bindArgs
  simp only [h.params, no_default h (by decide)]
  show wpAny _ _ (alloc _ >>= _) _ _ s
  refine wpAny_bind (wpAny_alloc (wpAny_bind (wpAny_bind (wpAny_bind (nsSet_one (k := "parse_detail") (Heap.get?_push_size _ rfl) fun h' hd hs => wpAny_pure (wpAny_pure (wpAny_pure ?_)))))))
  exact q h' hd fun b o e => (hs.2 b (Nat.ne_of_lt (Heap.lt_size e))).trans (Heap.get?_push_of_some _ e)
end
end Mine
namespace Mine
section
variable {prog : Program} {w : World} {c : Cx}
/-! ## a starred list in a display -/
theorem evL_star {e : Expr} {p : Pos} {es : List Expr} {ds1 ds2 : List D} (h : Ev prog w c e (.list ds1)) (hs : EvL prog w c es ds2) (he : starEach (.Starred e p :: es) c.env = (true, eval e c.env) :: starEach es c.env := by rfl) : EvL prog w c (.Starred e p :: es) (ds1 ++ ds2) := fun pos K s Q E ok q => by
  rw [he]
  refine ks_spliced (x := eval e c.env) (pos := pos) (h K s _ E ok fun K1 v s1 n1 r1 => ?_)
  cases r1 with
  | @list a o vs n _ h1 h2 h3 h4 h5 h6 =>
  have ho := n1.inH _ _ h1
  have hT : s1.TypeIs (.ref a) "list" := ⟨o, ho, h2⟩
  unfold StarOf notIterableAtAll
  refine wpAny_bind (wpAny_specialOf hT slot_list_iter.lookup ?_)
  refine wpAny_pure ⟨rfl, ?_⟩
  refine wpAny_collect_seq a (.inl rfl) ho h2 h3 (fun h' hk => ?_) (by rw [List.size_toArray, h4.length]; exact lim_size h5)
  have n2 : Next K1 s1 K1 { s1 with heap := h' } := .keep n1.inH (.of s1.toks hk)
  exact hs pos K1 _ _ E ((ok.next n1).next n2) fun K2 us s2 n3 r3 => q K2 _ s2 ((n1.trans n2).trans n3) ((h4.mono n3.sub).append r3)
/-! ## entering a def with **options -/
variable {A : Around} {i : Nat} {B : Heap} {KB K : KM} {a : Addr} {o : Obj} {fd : FuncData} {s : Shared} {v : Value} {d : D} {R : Result → Shared → Prop}
theorem enter_o (hroom : A.depth < recursionLimit) (hh : A.handled = none) (hB : BaseOk prog w B KB) (hKB : Sub KB K) (h1 : B.get? a = some o) (h2 : o.data = .func fd) (h3 : FnIs B fd i) (h4 : ∀ b o, B.get? b = some o → s.heap.get? b = some o) (hK : InH K s.heap) (rv : Rep prog w K v d)
    (hbind : ∀ (E : Value → Shared → Prop) (Q : List (Str × Value) → Shared → Prop), Q (bs2 v (.ref s.heap.objs.size)) { s with heap := s.heap.push { cls := .type "dict", data := .dict #[] } } → wpAny (model prog w) A.in1 (bindArgs fd ⟨[v], []⟩) Q E s)
    (hrun : ∀ L q code, Runs prog w ⟨A.deeper (fenv i L a q code), fenv i L a q code, [("options", mkD []), ("response", d)], [], B, KB⟩ ⟨[], K, s⟩ [bodyAt i] (fun f s' => R (.ok (.ret (match f with | .ret v => v | _ => .none))) s'))
    (hkind : (scopeAt i).kind = .function := by rfl) (hco : (scopeAt i).isCoroutine = false := by rfl) (hgen : (scopeAt i).isGenerator = false := by rfl)
    (hslot : ∀ L q code, (([("response", d), ("options", mkD [])] : List (Str × D)).all fun p => slot (fenv i L a q code) p.1) = true := by intro _ _ _; rfl) : codeAny (model prog w) A (.call (.ref a) ⟨[v], []⟩) R s := by
  refine enter (ρ := [("response", d), ("options", mkD [])]) hroom hh hB hKB h1 h2 h3 h4 hK (fun Q E hq => hbind E Q ?_) hkind hco hgen hslot hrun
  have hf := get_size s.heap
  have hn := none_of_fresh hK hf
  have ho : (s.heap.push { cls := .type "dict", data := .dict #[] }).get? s.heap.objs.size = some { cls := .type "dict", data := .dict #[] } := Heap.get?_push_size _ rfl
  obtain ⟨mg, mb, ⟨og, _, _, eg, _⟩, _⟩ := hB.glob
  have hm : (s.heap.objs.size == sysModules) = false := by
    have h3 : (3 : Nat) < s.heap.objs.size := Heap.lt_size (h4 _ _ eg)
    have h2 : s.heap.objs.size ≠ sysModules := by
      intro e
      have h5 : @Eq Nat s.heap.objs.size 1 := e
      omega
    simpa using h2
  have t : TopAt prog w K (s.heap.push { cls := .type "dict", data := .dict #[] }) s.heap.objs.size (mkD []) := top_dict (Heap.DictOf.new s.heap) .nil hm (Nat.zero_le _)
  have n0 : Next K s K { s with heap := s.heap.push { cls := .type "dict", data := .dict #[] } } := .keep hK (kp_push s _)
  obtain ⟨ob, hob, r⟩ := t.seal (s := { s with heap := s.heap.push { cls := .type "dict", data := .dict #[] } }) n0.inH hn
  exact hq _ _ _ (n0.seal hf hn hob) rfl (.cons (rv.mono (KM.sub_set hn)) (.cons r .nil))
theorem enter_k {k : Str} {u : Value} {du : D} (hroom : A.depth < recursionLimit) (hh : A.handled = none) (hB : BaseOk prog w B KB) (hKB : Sub KB K) (h1 : B.get? a = some o) (h2 : o.data = .func fd) (h3 : FnIs B fd i) (h4 : ∀ b o, B.get? b = some o → s.heap.get? b = some o) (hK : InH K s.heap) (rv : Rep prog w K v d) (ru : Rep prog w K u du)
    (hbind : ∀ (E : Value → Shared → Prop) (Q : List (Str × Value) → Shared → Prop), (∀ h', h'.DictOf (keyKind prog w) s.heap.objs.size [(.s k, u)] → (∀ b o, s.heap.get? b = some o → h'.get? b = some o) → Q (bs2 v (.ref s.heap.objs.size)) { s with heap := h', toks := s.toks + 1 }) → wpAny (model prog w) A.in1 (bindArgs fd ⟨[v], [(k, u)]⟩) Q E s)
    (hrun : ∀ L q code, Runs prog w ⟨A.deeper (fenv i L a q code), fenv i L a q code, [("options", mkD [(.s k, du)]), ("response", d)], [], B, KB⟩ ⟨[], K, s⟩ [bodyAt i] (fun f s' => R (.ok (.ret (match f with | .ret v => v | _ => .none))) s'))
    (hkind : (scopeAt i).kind = .function := by rfl) (hco : (scopeAt i).isCoroutine = false := by rfl) (hgen : (scopeAt i).isGenerator = false := by rfl)
    (hslot : ∀ L q code, (([("response", d), ("options", mkD [(.s k, du)])] : List (Str × D)).all fun p => slot (fenv i L a q code) p.1) = true := by intro _ _ _; rfl) : codeAny (model prog w) A (.call (.ref a) ⟨[v], [(k, u)]⟩) R s := by
  refine enter (ρ := [("response", d), ("options", mkD [(.s k, du)])]) hroom hh hB hKB h1 h2 h3 h4 hK (fun Q E hq => hbind E Q fun h' hd' hk' => ?_) hkind hco hgen hslot hrun
  have hf := get_size s.heap
  have hn := none_of_fresh hK hf
  obtain ⟨mg, mb, ⟨og, _, _, eg, _⟩, _⟩ := hB.glob
  have hm : (s.heap.objs.size == sysModules) = false := by
    have h3 : (3 : Nat) < s.heap.objs.size := Heap.lt_size (h4 _ _ eg)
    have h2 : s.heap.objs.size ≠ sysModules := by
      intro e
      have h5 : @Eq Nat s.heap.objs.size 1 := e
      omega
    simpa using h2
  have t : TopAt prog w K h' s.heap.objs.size (mkD [(.s k, du)]) := top_dict hd' ⟨rfl, .cons ru .nil⟩ hm (by show (1 : Nat) ≤ 4096; omega)
  have n0 : Next K s K { s with heap := h', toks := s.toks + 1 } := .keep hK (.of _ hk')
  obtain ⟨ob, hob, r⟩ := t.seal (s := { s with heap := h', toks := s.toks + 1 }) n0.inH hn
  exact hq _ _ _ (n0.seal hf hn hob) rfl (.cons (rv.mono (KM.sub_set hn)) (.cons r .nil))
theorem kw_none {K : KM} {kvs : List (Str × Value)} (h : KwAll prog w K kvs []) : kvs = [] := by have := h.names; simpa using this
theorem kw_one {K : KM} {kvs : List (Str × Value)} {k : Str} {d : D} (h : KwAll prog w K kvs [(k, d)]) : ∃ u, kvs = [(k, u)] ∧ Rep prog w K u d := by
  obtain ⟨hn, hva⟩ := h
  match kvs, hn, hva with
  | [(x, v)], hn, hva =>
    simp only [List.map_cons, List.map_nil, List.cons.injEq, and_true] at hn
    subst hn
    cases hva with
    | cons r _ => exact ⟨v, rfl, r⟩
theorem all_one {K : KM} {vs : List Value} {d : D} (h : All prog w K vs [d]) : ∃ v, vs = [v] ∧ Rep prog w K v d := by
  cases h with
  | cons r rs => cases rs; exact ⟨_, rfl, r⟩
end
end Mine
namespace Mine
section
variable {prog : Program} {w : World} {α : Anc} {R : Flow → Shared → Prop} {bs : List (List Stmt)} {rest : List Stmt} {A : Around} {env : Env} {ρ : List (Str × D)} {O : List (Str × Addr × D)} {B : Heap} {KB : KM}
theorem r_forD {tgt iter : Expr} {body : List Stmt} {pos : Pos} {xs : List D} (ρI : Nat → List (Str × D)) (OI : Nat → List (Str × Addr × D)) (β : D → List (Str × D))
    (hit : EvIt prog w ⟨A, env, ρ, O, B, KB⟩ tgt iter xs) (hput : ∀ d ∈ xs, Puts prog w A env tgt d (β d)) (hk : ∀ i d, Tgt env (OI i) (β d)) (h0 : Less ρ (ρI 0)) (h0' : Less O (OI 0)) (hadr : ∀ i, SameAddr (OI (i + 1)) (OI i))
    (hbody : ∀ i d α', xs[i]? = some d → Runs prog w ⟨A, env, β d ++ ρI i, OI i, B, KB⟩ α' [body] (fun f s' => f = .next ∧ ∃ K', Fr prog w ⟨A, env, ρI (i + 1), OI (i + 1), B, KB⟩ α' K' s'))
    {N : Nat} (hN : xs.length = N) (hr : Runs prog w ⟨A, env, ρI N, OI N, B, KB⟩ α (rest :: bs) R)
    (hs : ∀ x, foldedSetIterable iter env x = pure x := by intro _; rfl) : Runs prog w ⟨A, env, ρ, O, B, KB⟩ α ((.For tgt iter body [] pos :: rest) :: bs) R := by
  have e : ∀ {i : Nat} {d : D}, xs[i]? = some d → (xs[i]?).getD .none = d := fun h => by rw [h]; rfl
  refine r_for ρI OI (β := fun i => β ((xs[i]?).getD .none)) hit (fun i d hd => ?_) (fun i => hk i _) h0 h0' hadr (fun i d α' hd => ?_) hN hr hs
  · rw [e hd]; exact hput d (List.mem_of_getElem? hd)
  · rw [e hd]; exact hbody i d α' hd
theorem len_ok {n m : Nat} (h : n ≤ m) (hm : m ≤ lim) : n ≤ lim := Nat.le_trans h hm
theorem one_arg {e : Expr} (h : starEach [e] env = (false, eval e env) :: starEach [] env) : noLone env [e] := fun pos => .inl ⟨_, _, by rw [h]; rfl⟩
end
section
variable {prog : Program} {w : World}
def optsD (o : Bool) : List (Str × D) := if o then [("claim_min_idle_time", .int 10)] else []
def pairsOf (y : Int) (n : Nat) : List (Key × D) := (List.range n).map fun k => (.b (wordB (zOf y k)), .bytes (wordB ((zOf y k).fdiv 5)))
theorem flat_pairs (y : Int) (n : Nat) : flatOf y n = flatP (pairsOf y n) := by
  unfold flatOf flatP pairsOf
  rw [List.flatMap_map, List.flatMap_def]; rfl
theorem fields_pairs (y : Int) (n : Nat) : fieldsOf y n = puts (pairsOf y n) [] := by
  unfold fieldsOf puts pairsOf
  rw [List.foldl_map]
theorem nOf_lt (x : Int) : nOf x ≤ 2 := by
  have h1 : x.fmod 4 < 4 := Int.fmod_lt_of_pos _ (by decide)
  unfold nOf; omega
set_option maxHeartbeats 8000000 in
/-- the body of parse_stream_list -/
theorem psl_run {A : Around} {n : Nat} (hA : Fit A (n + 2)) {xs : List Int} {cl o : Bool} (ho : o = true → cl = true) (hz : xs.length ≤ lim) {L a : Addr} {q : Str} {code : Value} {B : Heap} {KB K : KM} {s : Shared} {R : Result → Shared → Prop}
    (fin : ∀ K' v s', Next K s K' s' → Rep prog w K' v (.list (xs.map (seenOf · (cl && o)))) → R (.ok (.ret v)) s') :
    Runs prog w ⟨A.deeper (fenv 4 L a q code), fenv 4 L a q code, [("options", mkD (if o then [(.s "claim_min_idle_time", .int 10)] else [])), ("response", .list (xs.map (toldOf · cl)))], [], B, KB⟩ ⟨[], K, s⟩ [bodyAt 4] (fun f s' => R (.ok (.ret (match f with | .ret v => v | _ => .none))) s') := by
  have hA1 : Fit (A.deeper (fenv 4 L a q code)) (n + 1) := hA.deeper
  refine r_false (evT_cmp (ev_name rfl) ev_none (evC_is rfl)) (runs_pop ?_)
  refine r_own (evn_list evL_nil (Nat.zero_le _)) fun ad had => ?_
  refine r_forD (fun i => [("options", mkD (if o then [(.s "claim_min_idle_time", .int 10)] else []))]) (fun i => [("data", ad, .list ((xs.take i).map (seenOf · (cl && o))))]) (fun d => [("r", d)]) (evIt_list (ev_name rfl)) (fun d hd => puts_name rfl rfl) (fun i d => .cons rfl rfl .nil) (.cons rfl .nil) (.cons rfl .nil) (fun i => .cons .nil) (fun i d α' hd => ?_) (N := xs.length) (List.length_map _) ?_
  · rw [List.getElem?_map] at hd
    obtain ⟨x, hx, rfl⟩ := Option.map_eq_some_iff.mp hd
    have hlt : i < xs.length := (List.getElem?_eq_some_iff.mp hx).1
    have hsucc : (xs.take (i + 1)).map (seenOf · (cl && o)) = (xs.take i).map (seenOf · (cl && o)) ++ [seenOf x (cl && o)] := by
      rw [List.take_add_one, hx, List.map_append]; rfl
    have hpl : ∀ y, 2 * (pairsOf y (nOf x)).length ≤ lim := fun y => by
      have := nOf_lt x
      have h : lim = 4096 := rfl
      unfold pairsOf; rw [List.length_map, List.length_range]; omega
    have hzz : ∀ d : D, ((xs.take i).map (seenOf · (cl && o)) ++ [d]).length ≤ lim := fun d => by rw [List.length_append, List.length_map, List.length_take]; simp; omega
    have done : ∀ {ρ' : List (Str × D)} {d : D}, d = seenOf x (cl && o) → ρ'.lookup ("options" : Str) = some (mkD (if o then [(.s "claim_min_idle_time", .int 10)] else [])) →
        Runs prog w ⟨A.deeper (fenv 4 L a q code), fenv 4 L a q code, ρ', [("data", ad, .list ((xs.take i).map (seenOf · (cl && o)) ++ [d])), ("data", ad, .list ((xs.take i).map (seenOf · (cl && o))))], B, KB⟩ α' [[], []] (fun f s' => f = .next ∧ ∃ K', Fr prog w ⟨A.deeper (fenv 4 L a q code), fenv 4 L a q code, [("options", mkD (if o then [(.s "claim_min_idle_time", .int 10)] else []))], [("data", ad, .list ((xs.take (i + 1)).map (seenOf · (cl && o))))], B, KB⟩ α' K' s') :=
      fun he hρ => by subst he; exact runs_pop (r_turn (.cons hρ .nil) (.own rfl (congrArg D.list hsucc) .nil))
    by_cases h4 : x.fmod 4 = 0
    · have e1 : toldOf x cl = .none := by unfold toldOf; rw [if_pos h4]
      have e2 : seenOf x (cl && o) = .tuple [.none, .none] := by unfold seenOf; rw [if_pos h4]
      rw [e1]
      refine r_false (evT_cmp (ev_name rfl) ev_none (evC_isNot rfl)) ?_
      exact r_append (.ofN (evn_tuple (evL_cons ev_none (evL_cons ev_none evL_nil)) lim8)) (done e2.symm rfl) (hzz _)
    · cases hcl : cl with
      | false =>
        have ho' : o = false := by cases o with
          | false => rfl
          | true => rw [hcl] at ho; exact (ho rfl).symm
        subst hcl ho'
        have e1 : toldOf x false = .list [.bytes (idB (x.fdiv 4)), .list (flatP (pairsOf (x.fdiv 4) (nOf x)))] := by unfold toldOf; rw [if_neg h4, flat_pairs]; rfl
        have e2 : seenOf x false = .tuple [.bytes (idB (x.fdiv 4)), mkD (puts (pairsOf (x.fdiv 4) (nOf x)) [])] := by unfold seenOf; rw [if_neg h4, fields_pairs]; rfl
        rw [e1]
        refine r_true (evT_cmp (ev_name rfl) ev_none (evC_isNot rfl)) ?_
        refine r_false (evT_cmp ev_str (ev_name rfl) (evC_in (by decide))) ?_
        exact r_append (.ofN (evn_tuple (evL_cons (ev_subL (.of (ev_name rfl) rfl) ev_int (j := 0) rfl rfl) (evL_cons (ev_call (f := "pairs_to_dict") (i := 3) (by simp [fnTab]) (evArgs_plain (evL_cons (ev_subL (.of (ev_name rfl) rfl) ev_int (j := 1) rfl rfl) evL_nil) (one_arg rfl)) (.ofN (spec_ptd hA1 (hpl _)))) evL_nil)) lim8)) (runs_pop (done e2.symm rfl)) (hzz _)
      | true =>
        subst hcl
        have e1 : toldOf x true = .list [.bytes (idB (x.fdiv 4)), .list (flatP (pairsOf (x.fdiv 4) (nOf x))), .int ((x.fdiv 4).fmod 100), .int (1 + (x.fdiv 4).fmod 3)] := by unfold toldOf; rw [if_neg h4, flat_pairs]; rfl
        cases o with
        | false =>
          have e2 : seenOf x (true && false) = .tuple [.bytes (idB (x.fdiv 4)), mkD (puts (pairsOf (x.fdiv 4) (nOf x)) [])] := by unfold seenOf; rw [if_neg h4, fields_pairs]; rfl
          rw [e1]
          refine r_true (evT_cmp (ev_name rfl) ev_none (evC_isNot rfl)) ?_
          refine r_false (evT_cmp ev_str (ev_name rfl) (evC_in (by decide))) ?_
          exact r_append (.ofN (evn_tuple (evL_cons (ev_subL (.of (ev_name rfl) rfl) ev_int (j := 0) rfl rfl) (evL_cons (ev_call (f := "pairs_to_dict") (i := 3) (by simp [fnTab]) (evArgs_plain (evL_cons (ev_subL (.of (ev_name rfl) rfl) ev_int (j := 1) rfl rfl) evL_nil) (one_arg rfl)) (.ofN (spec_ptd hA1 (hpl _)))) evL_nil)) lim8)) (runs_pop (done e2.symm rfl)) (hzz _)
        | true =>
          have e2 : seenOf x (true && true) = .tuple [.bytes (idB (x.fdiv 4)), mkD (puts (pairsOf (x.fdiv 4) (nOf x)) []), .int ((x.fdiv 4).fmod 100), .int (1 + (x.fdiv 4).fmod 3)] := by unfold seenOf; rw [if_neg h4, fields_pairs]; rfl
          rw [e1]
          refine r_true (evT_cmp (ev_name rfl) ev_none (evC_isNot rfl)) ?_
          refine r_true (evT_cmp ev_str (ev_name rfl) (evC_in (by decide))) ?_
          refine r_append (d := .tuple ([.bytes (idB (x.fdiv 4)), mkD (puts (pairsOf (x.fdiv 4) (nOf x)) [])] ++ ([.int ((x.fdiv 4).fmod 100), .int (1 + (x.fdiv 4).fmod 3)] ++ []))) (.ofN (evn_tuple (evL_cons ?_ (evL_cons ?_ (evL_star ?_ evL_nil))) (Nat.le_trans (show (4 : Nat) ≤ 64 by decide) (by decide)))) (runs_pop (done e2.symm rfl)) (hzz _)
          · exact ev_subL (.of (ev_name rfl) rfl) ev_int (j := 0) rfl rfl
          · exact ev_call (f := "pairs_to_dict") (i := 3) (by simp [fnTab]) (evArgs_plain (evL_cons (ev_subL (.of (ev_name rfl) rfl) ev_int (j := 1) rfl rfl) evL_nil) (one_arg rfl)) (.ofN (spec_ptd hA1 (hpl _)))
          · exact (Ev.ofN (evn_slice (.of (ev_name rfl) rfl) (evP_some ev_int) evP_none evP_none (by decide))).eq (by kernel_rfl)
  · refine r_seal "data" (O' := []) ?_ had .nil
    refine r_ret (ev_name rfl) fun K' v s' st r => fin K' v s' (st.toNext fun b hb => nomatch hb) ?_
    rw [List.take_length] at r; exact r
end
end Mine
namespace Mine
section
variable {prog : Program} {w : World} {c : Cx}
/-! ## options.get(k, d), data.get(k) -/
theorem ev_get2 {e ke de : Expr} {ap pos : Pos} {ks : List Key} {ds : List D} {k : Str} {d0 d : D} (h : EvR prog w c e (.dict ks ds)) (hk : Ev prog w c ke (.str k)) (hd : Ev prog w c de d0) (hr : d = (lk ks ds (.s k)).getD d0)
    (hbase : attributeBase e "get" c.env (eval e c.env) = eval e c.env := by rfl) (hline : (ap.endLine == pos.line) = true := by rfl) (ht : backTo pos (starEach [ke, de] c.env) = [(false, eval ke c.env), (false, eval de c.env)] := by rfl) : Ev prog w c (.Call (.Attribute e "get" ap) [ke, de] [] pos) d := fun K s Q E ok q => by
  subst hr
  refine wpAny_Call_method2_late hbase hline ht (h K s _ E ok fun K1 a s1 n1 t1 => ?_)
  generalize hD : D.dict ks ds = dd at t1
  cases t1 with
  | tuple => cases hD
  | list => cases hD
  | @dict o kvs ks' us ds' t1 t2 t3 t4 t5 t6 t7 t8 =>
  injection hD with e1 e2
  subst e1 e2 t5
  have hm : s1.heap.DictOf (keyKind prog w) a kvs := Heap.dictOf_iff.mpr ⟨o, t1, t2⟩
  refine ⟨"dict", "dict.get", PySem.F.plainAttrs_dict, PySem.F.slot_dict_get, PySem.F.type_dict_get, hm.typeIs, fun b hb => ⟨o, by cases hb; exact t1, t8⟩, ?_⟩
  refine wpAny_dict_get2 (knd := keyKind prog w) t3 (hk K1 s1 _ E (ok.next n1) fun K2 kv s2 n2 r2 => hd K2 s2 _ E ((ok.next n1).next n2) fun K3 dv s3 n3 r3 => ?_)
  have hm3 : s3.heap.DictOf (keyKind prog w) a kvs := (hm.keep fun b o e => n2.keeps.get e).keep fun b o e => n3.keeps.get e
  cases r2 with
  | str _ tk =>
  refine ⟨.s k, _, strKind_is prog w k tk, hm3.mapOf, ?_⟩
  have nn := ((n1.trans n2).trans n3).trans (.toks n3.inH (s3.toks + 1))
  subst t4
  cases hl : lk (kvs.map (·.1)) ds (.s k) with
  | some d' =>
    obtain ⟨v, hv, r⟩ := lk_of_valueAt (t6.mono (n2.sub.trans n3.sub)) hl
    rw [hl] at q
    show Q ((valueAt kvs (.s k)).getD dv) _
    rw [hv]
    exact q K3 v _ nn r
  | none =>
    rw [hl] at q
    have hno : Key.s k ∉ kvs.map (·.1) := fun hm => by
      obtain ⟨i, hi⟩ := List.getElem?_of_mem hm
      have hlen : (kvs.map (·.1)).length = ds.length := by rw [List.length_map]; have := t6.length; rwa [List.length_map] at this
      have hlt : i < ds.length := by rw [← hlen]; exact (List.getElem?_eq_some_iff.mp hi).1
      have hn : (kvs.map (·.1)).Nodup := let ⟨_, _, _, _, _, _, hn⟩ := t2; hn
      have := lk_of_nodup hn hi (List.getElem?_eq_getElem hlt)
      rw [hl] at this; cases this
    show Q ((valueAt kvs (.s k)).getD dv) _
    rw [valueAt_none hno]
    exact q K3 dv _ nn r3
theorem ev_get1 {e ke : Expr} {ap pos : Pos} {ks : List Key} {ds : List D} {k : Str} {d : D} (h : EvR prog w c e (.dict ks ds)) (hk : Ev prog w c ke (.str k)) (hr : d = (lk ks ds (.s k)).getD .none)
    (hbase : attributeBase e "get" c.env (eval e c.env) = eval e c.env := by rfl) (hline : (ap.endLine == pos.line) = true := by rfl) (ht : backTo pos (starEach [ke] c.env) = [(false, eval ke c.env)] := by rfl) : Ev prog w c (.Call (.Attribute e "get" ap) [ke] [] pos) d := fun K s Q E ok q => by
  subst hr
  refine wpAny_Call_method1_late hbase hline ht (h K s _ E ok fun K1 a s1 n1 t1 => ?_)
  generalize hD : D.dict ks ds = dd at t1
  cases t1 with
  | tuple => cases hD
  | list => cases hD
  | @dict o kvs ks' us ds' t1 t2 t3 t4 t5 t6 t7 t8 =>
  injection hD with e1 e2
  subst e1 e2 t5
  have hm : s1.heap.DictOf (keyKind prog w) a kvs := Heap.dictOf_iff.mpr ⟨o, t1, t2⟩
  refine ⟨"dict", "dict.get", PySem.F.plainAttrs_dict, PySem.F.slot_dict_get, PySem.F.type_dict_get, hm.typeIs, fun b hb => ⟨o, by cases hb; exact t1, t8⟩, ?_⟩
  refine wpAny_dict_get1 (knd := keyKind prog w) t3 (hk K1 s1 _ E (ok.next n1) fun K2 kv s2 n2 r2 => ?_)
  have hm3 : s2.heap.DictOf (keyKind prog w) a kvs := hm.keep fun b o e => n2.keeps.get e
  cases r2 with
  | str _ tk =>
  refine ⟨.s k, _, strKind_is prog w k tk, hm3.mapOf, ?_⟩
  have nn := (n1.trans n2).trans (.toks n2.inH (s2.toks + 1))
  subst t4
  cases hl : lk (kvs.map (·.1)) ds (.s k) with
  | some d' =>
    obtain ⟨v, hv, r⟩ := lk_of_valueAt (t6.mono n2.sub) hl
    rw [hl] at q
    show Q ((valueAt kvs (.s k)).getD .none) _
    rw [hv]
    exact q K2 v _ nn r
  | none =>
    rw [hl] at q
    have hno : Key.s k ∉ kvs.map (·.1) := fun hm => by
      obtain ⟨i, hi⟩ := List.getElem?_of_mem hm
      have hlen : (kvs.map (·.1)).length = ds.length := by rw [List.length_map]; have := t6.length; rwa [List.length_map] at this
      have hlt : i < ds.length := by rw [← hlen]; exact (List.getElem?_eq_some_iff.mp hi).1
      have hn : (kvs.map (·.1)).Nodup := let ⟨_, _, _, _, _, _, hn⟩ := t2; hn
      have := lk_of_nodup hn hi (List.getElem?_eq_getElem hlt)
      rw [hl] at this; cases this
    show Q ((valueAt kvs (.s k)).getD .none) _
    rw [valueAt_none hno]
    exact q K2 .none _ nn .none
/-! ## parse_stream_list, parse_xclaim -/
theorem spec_psl {A : Around} {n : Nat} (hA : Fit A (n + 2)) {xs : List Int} {cl o : Bool} (ho : o = true → cl = true) (hz : xs.length ≤ lim) : Spec prog w A 4 [.list (xs.map (toldOf · cl))] (optsD o) (.list (xs.map (seenOf · (cl && o)))) := by
  intro B KB a ob fd K s vs kvs R hB hKB h1 h2 h3 h4 hK hvs hkw q
  obtain ⟨v, rfl, rv⟩ := all_one hvs
  cases o with
  | false =>
    obtain rfl := kw_none hkw
    exact enter_o (Fit.here hA) hA.hand hB hKB h1 h2 h3 h4 hK rv (fun E Q hq => bind_o4 h3 hq) fun L qn code => psl_run hA ho hz q
  | true =>
    obtain ⟨u, rfl, ru⟩ := kw_one hkw
    exact enter_k (k := "claim_min_idle_time") (Fit.here hA) hA.hand hB hKB h1 h2 h3 h4 hK rv ru (fun E Q hq => bind_k4_0 h3 hq) fun L qn code => psl_run hA ho hz q
set_option maxHeartbeats 4000000 in
theorem spec_xclaim {A : Around} {n : Nat} (hA : Fit A (n + 3)) {xs : List Int} {cl o : Bool} (hz : xs.length ≤ lim) : Spec prog w A 5 [.list (xs.map (toldOf · cl))] (optsD o) (.list (xs.map (seenOf · false))) := by
  intro B KB a ob fd K s vs kvs R hB hKB h1 h2 h3 h4 hK hvs hkw q
  obtain ⟨v, rfl, rv⟩ := all_one hvs
  have run : ∀ L qn code, Runs prog w ⟨A.deeper (fenv 5 L a qn code), fenv 5 L a qn code, [("options", mkD (if o then [(.s "claim_min_idle_time", .int 10)] else [])), ("response", .list (xs.map (toldOf · cl)))], [], B, KB⟩ ⟨[], K, s⟩ [bodyAt 5] (fun f s' => R (.ok (.ret (match f with | .ret v => v | _ => .none))) s') := fun L qn code => by
    have hA1 : Fit (A.deeper (fenv 5 L a qn code)) (n + 2) := hA.deeper
    refine r_false (evT_bool (ev_get2 (.of (ev_name rfl) rfl) ev_str ev_bool (by cases o <;> rfl))) (runs_pop ?_)
    refine r_ret (ev_call (f := "parse_stream_list") (i := 4) (by simp [fnTab]) (evArgs_plain (evL_cons (ev_name rfl) evL_nil) (one_arg rfl)) (spec_psl (o := false) hA1 (by intro h; cases h) hz)) fun K' v s' st r => q K' v s' (st.toNext fun b hb => nomatch hb) ?_
    rw [Bool.and_false] at r; exact r
  cases o with
  | false =>
    obtain rfl := kw_none hkw
    exact enter_o (Fit.here hA) hA.hand hB hKB h1 h2 h3 h4 hK rv (fun E Q hq => bind_o5 h3 hq) run
  | true =>
    obtain ⟨u, rfl, ru⟩ := kw_one hkw
    exact enter_k (k := "claim_min_idle_time") (Fit.here hA) hA.hand hB hKB h1 h2 h3 h4 hK rv ru (fun E Q hq => bind_k5_0 h3 hq) run
theorem spec_xclaim_just {A : Around} {n : Nat} (hA : Fit A (n + 1)) {d : D} : Spec prog w A 5 [d] [("parse_justid", .bool true)] d := by
  intro B KB a ob fd K s vs kvs R hB hKB h1 h2 h3 h4 hK hvs hkw q
  obtain ⟨v, rfl, rv⟩ := all_one hvs
  obtain ⟨u, rfl, ru⟩ := kw_one hkw
  refine enter_k (k := "parse_justid") (Fit.here hA) hA.hand hB hKB h1 h2 h3 h4 hK rv ru (fun E Q hq => bind_k5_1 h3 hq) fun L qn code => ?_
  refine r_true (evT_bool (ev_get2 (.of (ev_name rfl) rfl) ev_str ev_bool (by rfl))) ?_
  exact r_ret (ev_name rfl) fun K' v s' st r => q K' v s' (st.toNext fun b hb => nomatch hb) r
theorem spec_xauto_just {A : Around} {n : Nat} (hA : Fit A (n + 1)) {ds : List D} {d : D} (hd : ds[1]? = some d) (hl : 1 < ds.length) : Spec prog w A 6 [.list ds] [("parse_justid", .bool true)] d := by
  intro B KB a ob fd K s vs kvs R hB hKB h1 h2 h3 h4 hK hvs hkw q
  obtain ⟨v, rfl, rv⟩ := all_one hvs
  obtain ⟨u, rfl, ru⟩ := kw_one hkw
  refine enter_k (k := "parse_justid") (Fit.here hA) hA.hand hB hKB h1 h2 h3 h4 hK rv ru (fun E Q hq => bind_k6_0 h3 hq) fun L qn code => ?_
  refine r_true (evT_bool (ev_get2 (.of (ev_name rfl) rfl) ev_str ev_bool (by rfl))) ?_
  exact r_ret (ev_subL (.of (ev_name rfl) rfl) ev_int (index_ok (k := 1) (by decide) (by omega)) hd) fun K' v s' st r => q K' v s' (st.toNext fun b hb => nomatch hb) r
end
end Mine
namespace Mine
section
variable {prog : Program} {w : World} {c : Cx}
theorem EvIt.eq {tgt e : Expr} {xs xs' : List D} (h : EvIt prog w c tgt e xs) (he : xs = xs') : EvIt prog w c tgt e xs' := he ▸ h
def optM (o : Bool) : D := mkD (if o then [(.s "claim_min_idle_time", .int 10)] else [])
theorem ev_psl {n : Nat} {e : Expr} {p op kp pos : Pos} {xs : List Int} {cl o : Bool} (hA : Fit c.A (n + 2)) (harg : Ev prog w c e (.list (xs.map (toldOf · cl)))) (ho : o = true → cl = true) (hz : xs.length ≤ lim) (hopt : c.ρ.lookup ("options" : Str) = some (optM o))
    (hk : c.env.kindOf "parse_stream_list" = some .globalImplicit := by rfl) (he : starEach [e] c.env = (false, eval e c.env) :: starEach [] c.env := by rfl) : Ev prog w c (.Call (.Name "parse_stream_list" p) [e] [⟨none, .Name "options" op, kp⟩] pos) (.list (xs.map (seenOf · (cl && o)))) := by
  cases o with
  | false => exact ev_call (f := "parse_stream_list") (i := 4) (by simp [fnTab]) (evArgs_star (ks := []) (es := []) (evL_cons harg evL_nil he) (one_arg he) (ev_name hopt)) (spec_psl (o := false) hA ho hz) hk
  | true => exact ev_call (f := "parse_stream_list") (i := 4) (by simp [fnTab]) (evArgs_star (ks := ["claim_min_idle_time"]) (es := [.int 10]) (evL_cons harg evL_nil he) (one_arg he) (ev_name hopt)) (spec_psl (o := true) hA ho hz) hk
/-- rows of streams: a key, its entries -/
def rowD (f : List Int → D) (p : Key × List Int) : D := .list [keyD p.1, f p.2]
def tolds (cl : Bool) (xs : List Int) : D := .list (xs.map (toldOf · cl))
def seens (cl : Bool) (xs : List Int) : D := .list (xs.map (seenOf · cl))
def tabD (f : List Int → D) (rw : List (Key × List Int)) : D := .dict (rw.map (·.1)) (rw.map fun p => f p.2)
theorem items_tab (f : List Int → D) (rw : List (Key × List Int)) : itemsD (rw.map (·.1)) (rw.map fun p => f p.2) = rw.map fun p => D.tuple [keyD p.1, f p.2] := by
  unfold itemsD
  rw [List.zip_map', List.map_map]; rfl
theorem put_new {l : List (Key × D)} {k : Key} {d : D} (h : k ∉ l.map (·.1)) : put l k d = l ++ [(k, d)] := by
  unfold put
  rw [if_neg]
  rw [List.any_eq_true]
  rintro ⟨p, hp, he⟩
  exact h (List.mem_map.mpr ⟨p, hp, of_decide_eq_true he⟩)
theorem fold_new {T : Type} {kf : T → Key} {vf : T → D} : ∀ (xs : List T) (l : List (Key × D)), (l.map (·.1) ++ xs.map kf).Nodup → xs.foldl (fun acc x => put acc (kf x) (vf x)) l = l ++ xs.map fun x => (kf x, vf x)
  | [], l, _ => by simp
  | x :: xs, l, h => by
    have hx : kf x ∉ l.map (·.1) := fun hm => by
      rw [List.nodup_append] at h
      exact h.2.2 _ hm _ (by simp) rfl
    rw [List.foldl_cons, put_new hx, fold_new xs _ (by simpa [List.map_append] using h)]
    simp
theorem dfold_new {T : Type} {kf : T → Key} {vf : T → D} {xs : List T} (h : (xs.map kf).Nodup) : dfold kf vf xs = xs.map fun x => (kf x, vf x) := by
  unfold dfold
  rw [fold_new xs [] (by simpa using h)]; rfl
theorem mkD_tab {f : List Int → D} {rw : List (Key × List Int)} : mkD (rw.map fun p => (p.1, f p.2)) = tabD f rw := by
  unfold mkD tabD; rw [List.map_map, List.map_map]; rfl
theorem filt_all {T : Type} (xs : List T) : xs.filter (fun _ => true) = xs := List.filter_eq_self.mpr fun _ _ => rfl
structure RowsOk (rw : List (Key × List Int)) : Prop where
  keys : (rw.map (·.1)).Nodup
  some : rw ≠ []
  lens : ∀ p ∈ rw, p.2.length ≤ lim
  len : rw.length ≤ lim

/-- the two ways to be called: with no keyword, with claim_min_idle_time -/
theorem by_opts {A : Around} {i : Nat} {B : Heap} {KB K : KM} {a : Addr} {ob : Obj} {fd : FuncData} {s : Shared} {v : Value} {d : D} {R : Result → Shared → Prop} {kvs : List (Str × Value)} {o : Bool} (hroom : A.depth < recursionLimit) (hh : A.handled = none) (hB : BaseOk prog w B KB) (hKB : Sub KB K) (h1 : B.get? a = some ob) (h2 : ob.data = .func fd) (h3 : FnIs B fd i)
    (h4 : ∀ b o, B.get? b = some o → s.heap.get? b = some o) (hK : InH K s.heap) (rv : Rep prog w K v d) (hkw : KwAll prog w K kvs (optsD o))
    (hb0 : ∀ (E : Value → Shared → Prop) (Q : List (Str × Value) → Shared → Prop), Q (bs2 v (.ref s.heap.objs.size)) { s with heap := s.heap.push { cls := .type "dict", data := .dict #[] } } → wpAny (model prog w) A.in1 (bindArgs fd ⟨[v], []⟩) Q E s)
    (hb1 : ∀ u (E : Value → Shared → Prop) (Q : List (Str × Value) → Shared → Prop), (∀ h', h'.DictOf (keyKind prog w) s.heap.objs.size [(.s "claim_min_idle_time", u)] → (∀ b o, s.heap.get? b = some o → h'.get? b = some o) → Q (bs2 v (.ref s.heap.objs.size)) { s with heap := h', toks := s.toks + 1 }) → wpAny (model prog w) A.in1 (bindArgs fd ⟨[v], [("claim_min_idle_time", u)]⟩) Q E s)
    (hrun : ∀ L q code, Runs prog w ⟨A.deeper (fenv i L a q code), fenv i L a q code, [("options", optM o), ("response", d)], [], B, KB⟩ ⟨[], K, s⟩ [bodyAt i] (fun f s' => R (.ok (.ret (match f with | .ret v => v | _ => .none))) s'))
    (hkind : (scopeAt i).kind = .function := by rfl) (hco : (scopeAt i).isCoroutine = false := by rfl) (hgen : (scopeAt i).isGenerator = false := by rfl)
    (hslot : ∀ d d' L q code, (([("response", d), ("options", d')] : List (Str × D)).all fun p => slot (fenv i L a q code) p.1) = true := by intro _ _ _ _ _; rfl) : codeAny (model prog w) A (.call (.ref a) ⟨[v], kvs⟩) R s := by
  cases o with
  | false =>
    obtain rfl := kw_none hkw
    exact enter_o hroom hh hB hKB h1 h2 h3 h4 hK rv hb0 hrun hkind hco hgen (hslot _ _)
  | true =>
    obtain ⟨u, rfl, ru⟩ := kw_one hkw
    exact enter_k (k := "claim_min_idle_time") hroom hh hB hKB h1 h2 h3 h4 hK rv ru (hb1 u) hrun hkind hco hgen (hslot _ _)

set_option maxHeartbeats 8000000 in
theorem spec_xread {A : Around} {n : Nat} (hA : Fit A (n + 3)) {rw : List (Key × List Int)} {cl o : Bool} (ho : o = true → cl = true) (hr : RowsOk rw) : Spec prog w A 8 [.list (rw.map (rowD (tolds cl)))] (optsD o) (.list (rw.map (rowD (seens (cl && o))))) := by
  intro B KB a ob fd K s vs kvs R hB hKB h1 h2 h3 h4 hK hvs hkw q
  obtain ⟨v, rfl, rv⟩ := all_one hvs
  refine by_opts (o := o) (Fit.here hA) hA.hand hB hKB h1 h2 h3 h4 hK rv hkw (fun E Q hq => bind_o8 h3 hq) (fun u E Q hq => bind_k8_0 h3 hq) fun L qn code => ?_
  have hA1 : Fit (A.deeper (fenv 8 L a qn code)) (n + 2) := hA.deeper
  refine r_false (evT_cmp (ev_name rfl) ev_none (evC_is rfl)) (runs_pop ?_)
  refine r_ret (.ofN (e_comp (xs := rw) (φ := rowD (tolds cl)) (p := fun _ => true) (g := rowD (seens (cl && o))) (β := fun p => [("r", rowD (tolds cl) p)]) [("options", optM o)] (evIt_list (ev_name rfl)) ⟨rfl, rfl, rfl, rfl⟩ (.cons rfl rfl .nil) (fun d hd C => puts_name rfl rfl) (fun d hd => rfl) (fun d hd C => evF_nil) (fun d hd _ C => ?_))) fun K' v s' st r => q K' v s' (st.toNext fun b hb => nomatch hb) ?_
  · exact .ofN (evn_list (evL_cons (ev_subL (.of (ev_name rfl) rfl) ev_int (j := 0) rfl rfl) (evL_cons (ev_psl hA1 (ev_subL (.of (ev_name rfl) rfl) ev_int (j := 1) rfl rfl) ho (hr.lens d hd) rfl) evL_nil)) lim8)
  · rw [filt_all] at r; exact r
theorem spec_xread_none {A : Around} {n : Nat} (hA : Fit A (n + 1)) : Spec prog w A 8 [.none] [] (.list []) := by
  intro B KB a ob fd K s vs kvs R hB hKB h1 h2 h3 h4 hK hvs hkw q
  obtain ⟨v, rfl, rv⟩ := all_one hvs
  obtain rfl := kw_none hkw
  refine enter_o (Fit.here hA) hA.hand hB hKB h1 h2 h3 h4 hK rv (fun E Q hq => bind_o8 h3 hq) fun L qn code => ?_
  refine r_true (evT_cmp (ev_name rfl) ev_none (evC_is rfl)) ?_
  exact r_ret (.ofN (evn_list evL_nil (Nat.zero_le _))) fun K' v s' st r => q K' v s' (st.toNext fun b hb => nomatch hb) r
set_option maxHeartbeats 8000000 in
theorem spec_resp3 {A : Around} {n : Nat} (hA : Fit A (n + 3)) {rw : List (Key × List Int)} {cl o : Bool} (ho : o = true → cl = true) (hr : RowsOk rw) : Spec prog w A 9 [tabD (tolds cl) rw] (optsD o) (tabD (fun xs => .list [seens (cl && o) xs]) rw) := by
  intro B KB a ob fd K s vs kvs R hB hKB h1 h2 h3 h4 hK hvs hkw q
  obtain ⟨v, rfl, rv⟩ := all_one hvs
  refine by_opts (o := o) (Fit.here hA) hA.hand hB hKB h1 h2 h3 h4 hK rv hkw (fun E Q hq => bind_o9 h3 hq) (fun u E Q hq => bind_k9_0 h3 hq) fun L qn code => ?_
  have hA1 : Fit (A.deeper (fenv 9 L a qn code)) (n + 2) := hA.deeper
  refine r_false (evT_cmp (ev_name rfl) ev_none (evC_is rfl)) (runs_pop ?_)
  refine r_ret (.ofN (e_dcomp (xs := rw) (φ := fun p => D.tuple [keyD p.1, tolds cl p.2]) (p := fun _ => true) (kf := fun p => p.1) (vf := fun p => .list [seens (cl && o) p.2]) (β := fun p => [("key", keyD p.1), ("value", tolds cl p.2)]) [("options", optM o)] ((evIt_items (ev_name rfl)).eq (items_tab (tolds cl) rw)) ⟨rfl, rfl, rfl, rfl⟩ (.cons rfl rfl .nil)
    (fun d hd C => puts_tuple hA1.hand (putsL_cons rfl rfl (putsL_cons rfl rfl putsL_nil rfl) rfl) rfl rfl) (fun d hd => rfl) (fun d hd C => evF_nil) (fun d hd _ C => ⟨ev_name rfl, ?_⟩))) fun K' v s' st r => q K' v s' (st.toNext fun b hb => nomatch hb) ?_
  · exact .ofN (evn_list (evL_cons (ev_psl hA1 (ev_name rfl) ho (hr.lens d hd) rfl) evL_nil) lim8)
  · rw [filt_all, dfold_new hr.keys, mkD_tab (f := fun xs => .list [seens (cl && o) xs])] at r; exact r
theorem truth_tab {f : List Int → D} {rw : List (Key × List Int)} (h : rw ≠ []) : (tabD f rw).truth = true := by
  cases rw with
  | nil => exact absurd rfl h
  | cons p r => rfl
theorem truth_rows {f : Key × List Int → D} {rw : List (Key × List Int)} (h : rw ≠ []) : (D.list (rw.map f)).truth = true := by
  cases rw with
  | nil => exact absurd rfl h
  | cons p r => rfl
set_option maxHeartbeats 8000000 in
theorem spec_uni_tab {A : Around} {n : Nat} (hA : Fit A (n + 3)) {rw : List (Key × List Int)} {cl o : Bool} (ho : o = true → cl = true) (hr : RowsOk rw) : Spec prog w A 10 [tabD (tolds cl) rw] (optsD o) (tabD (seens (cl && o)) rw) := by
  intro B KB a ob fd K s vs kvs R hB hKB h1 h2 h3 h4 hK hvs hkw q
  obtain ⟨v, rfl, rv⟩ := all_one hvs
  refine by_opts (o := o) (Fit.here hA) hA.hand hB hKB h1 h2 h3 h4 hK rv hkw (fun E Q hq => bind_o10 h3 hq) (fun u E Q hq => bind_k10_0 h3 hq) fun L qn code => ?_
  have hA1 : Fit (A.deeper (fenv 10 L a qn code)) (n + 2) := hA.deeper
  refine r_false (evT_not (evT_ref (.of (ev_name rfl) rfl) (truth_tab (f := tolds cl) hr.some).symm)) (runs_pop ?_)
  refine r_true (evT_bool (ev_isiR (T := "dict") (.of (ev_name (d := tabD (tolds cl) rw) rfl) rfl) (by simp [biTab]) isi_dict_dict)) ?_
  refine r_ret (.ofN (e_dcomp (xs := rw) (φ := fun p => D.tuple [keyD p.1, tolds cl p.2]) (p := fun _ => true) (kf := fun p => p.1) (vf := fun p => seens (cl && o) p.2) (β := fun p => [("key", keyD p.1), ("value", tolds cl p.2)]) [("options", optM o)] ((evIt_items (ev_name rfl)).eq (items_tab (tolds cl) rw)) ⟨rfl, rfl, rfl, rfl⟩ (.cons rfl rfl .nil)
    (fun d hd C => puts_tuple hA1.hand (putsL_cons rfl rfl (putsL_cons rfl rfl putsL_nil rfl) rfl) rfl rfl) (fun d hd => rfl) (fun d hd C => evF_nil) (fun d hd _ C => ⟨ev_name rfl, ev_psl hA1 (ev_name rfl) ho (hr.lens d hd) rfl⟩))) fun K' v s' st r => q K' v s' (st.toNext fun b hb => nomatch hb) ?_
  rw [filt_all, dfold_new hr.keys, mkD_tab (f := seens (cl && o))] at r; exact r
set_option maxHeartbeats 8000000 in
theorem spec_uni_rows {A : Around} {n : Nat} (hA : Fit A (n + 3)) {rw : List (Key × List Int)} {cl o : Bool} (ho : o = true → cl = true) (hr : RowsOk rw) : Spec prog w A 10 [.list (rw.map (rowD (tolds cl)))] (optsD o) (tabD (seens (cl && o)) rw) := by
  intro B KB a ob fd K s vs kvs R hB hKB h1 h2 h3 h4 hK hvs hkw q
  obtain ⟨v, rfl, rv⟩ := all_one hvs
  refine by_opts (o := o) (Fit.here hA) hA.hand hB hKB h1 h2 h3 h4 hK rv hkw (fun E Q hq => bind_o10 h3 hq) (fun u E Q hq => bind_k10_0 h3 hq) fun L qn code => ?_
  have hA1 : Fit (A.deeper (fenv 10 L a qn code)) (n + 2) := hA.deeper
  refine r_false (evT_not (evT_ref (.of (ev_name rfl) rfl) (truth_rows (f := rowD (tolds cl)) hr.some).symm)) (runs_pop ?_)
  refine r_false (evT_bool (ev_isiR (T := "dict") (.of (ev_name (d := .list (rw.map (rowD (tolds cl)))) rfl) rfl) (by simp [biTab]) isi_list_dict)) (runs_pop ?_)
  refine r_ret (.ofN (e_dcomp (xs := rw) (φ := rowD (tolds cl)) (p := fun _ => true) (kf := fun p => p.1) (vf := fun p => seens (cl && o) p.2) (β := fun p => [("stream", keyD p.1), ("entries", tolds cl p.2)]) [("options", optM o)] (evIt_list (ev_name rfl)) ⟨rfl, rfl, rfl, rfl⟩ (.cons rfl rfl .nil)
    (fun d hd C => puts_list hA1.hand (putsL_cons rfl rfl (putsL_cons rfl rfl putsL_nil rfl) rfl) rfl rfl) (fun d hd => rfl) (fun d hd C => evF_nil) (fun d hd _ C => ⟨ev_name rfl, ev_psl hA1 (ev_name rfl) ho (hr.lens d hd) rfl⟩))) fun K' v s' st r => q K' v s' (st.toNext fun b hb => nomatch hb) ?_
  rw [filt_all, dfold_new hr.keys, mkD_tab (f := seens (cl && o))] at r; exact r
theorem spec_uni_empty {A : Around} {n : Nat} (hA : Fit A (n + 1)) : Spec prog w A 10 [mkD []] [] (mkD []) := by
  intro B KB a ob fd K s vs kvs R hB hKB h1 h2 h3 h4 hK hvs hkw q
  obtain ⟨v, rfl, rv⟩ := all_one hvs
  obtain rfl := kw_none hkw
  refine enter_o (Fit.here hA) hA.hand hB hKB h1 h2 h3 h4 hK rv (fun E Q hq => bind_o10 h3 hq) fun L qn code => ?_
  refine r_true (evT_not (evT_ref (b := false) (.of (ev_name rfl) rfl) rfl)) ?_
  exact r_ret (.ofN evn_dict0) fun K' v s' st r => q K' v s' (st.toNext fun b hb => nomatch hb) r
theorem spec_uni_none {A : Around} {n : Nat} (hA : Fit A (n + 1)) : Spec prog w A 10 [.none] [] (mkD []) := by
  intro B KB a ob fd K s vs kvs R hB hKB h1 h2 h3 h4 hK hvs hkw q
  obtain ⟨v, rfl, rv⟩ := all_one hvs
  obtain rfl := kw_none hkw
  refine enter_o (Fit.here hA) hA.hand hB hKB h1 h2 h3 h4 hK rv (fun E Q hq => bind_o10 h3 hq) fun L qn code => ?_
  refine r_true (evT_not (evT_none (ev_name rfl))) ?_
  exact r_ret (.ofN evn_dict0) fun K' v s' st r => q K' v s' (st.toNext fun b hb => nomatch hb) r
set_option maxHeartbeats 8000000 in
theorem spec_leg {A : Around} {n : Nat} (hA : Fit A (n + 3)) {rw : List (Key × List Int)} {cl o : Bool} (ho : o = true → cl = true) (hr : RowsOk rw) : Spec prog w A 11 [tabD (tolds cl) rw] (optsD o) (.list (rw.map (rowD (seens (cl && o))))) := by
  intro B KB a ob fd K s vs kvs R hB hKB h1 h2 h3 h4 hK hvs hkw q
  obtain ⟨v, rfl, rv⟩ := all_one hvs
  refine by_opts (o := o) (Fit.here hA) hA.hand hB hKB h1 h2 h3 h4 hK rv hkw (fun E Q hq => bind_o11 h3 hq) (fun u E Q hq => bind_k11_0 h3 hq) fun L qn code => ?_
  have hA1 : Fit (A.deeper (fenv 11 L a qn code)) (n + 2) := hA.deeper
  refine r_false (evT_not (evT_ref (.of (ev_name rfl) rfl) (truth_tab (f := tolds cl) hr.some).symm)) (runs_pop ?_)
  refine r_ret (.ofN (e_comp (xs := rw) (φ := fun p => D.tuple [keyD p.1, tolds cl p.2]) (p := fun _ => true) (g := rowD (seens (cl && o))) (β := fun p => [("key", keyD p.1), ("value", tolds cl p.2)]) [("options", optM o)] ((evIt_items (ev_name rfl)).eq (items_tab (tolds cl) rw)) ⟨rfl, rfl, rfl, rfl⟩ (.cons rfl rfl .nil)
    (fun d hd C => puts_tuple hA1.hand (putsL_cons rfl rfl (putsL_cons rfl rfl putsL_nil rfl) rfl) rfl rfl) (fun d hd => rfl) (fun d hd C => evF_nil) (fun d hd _ C => .ofN (evn_list (evL_cons (ev_name rfl) (evL_cons (ev_psl hA1 (ev_name rfl) ho (hr.lens d hd) rfl) evL_nil)) lim8)))) fun K' v s' st r => q K' v s' (st.toNext fun b hb => nomatch hb) ?_
  rw [filt_all] at r; exact r
theorem spec_leg_empty {A : Around} {n : Nat} (hA : Fit A (n + 1)) : Spec prog w A 11 [mkD []] [] (.list []) := by
  intro B KB a ob fd K s vs kvs R hB hKB h1 h2 h3 h4 hK hvs hkw q
  obtain ⟨v, rfl, rv⟩ := all_one hvs
  obtain rfl := kw_none hkw
  refine enter_o (Fit.here hA) hA.hand hB hKB h1 h2 h3 h4 hK rv (fun E Q hq => bind_o11 h3 hq) fun L qn code => ?_
  refine r_true (evT_not (evT_ref (b := false) (.of (ev_name rfl) rfl) rfl)) ?_
  exact r_ret (.ofN (evn_list evL_nil (Nat.zero_le _))) fun K' v s' st r => q K' v s' (st.toNext fun b hb => nomatch hb) r
end
end Mine
namespace Mine
section
variable {prog : Program} {w : World} {c : Cx}
/-! ## dict displays -/
def PRep (prog : Program) (w : World) (K : KM) (vs : List (Value × Value)) (l : List (Key × D)) : Prop := ∃ kvs, Carries (keyKind prog w) vs kvs ∧ DAt prog w K kvs l
def EvD (prog : Program) (w : World) (c : Cx) (ks : List (Option Expr)) (vs : List Expr) (l : List (Key × D)) : Prop :=
  ∀ (pos : Pos) (K : KM) (s : Shared) (Q : List (Value × Value) → Shared → Prop) (E : Value → Shared → Prop), Ok prog w c K s → (∀ K' us s', Next K s K' s' → PRep prog w K' us l → Q us s') → wpAny (model prog w) c.A (evalPairs (pairTrees ks vs c.env pos)) Q E s
theorem evD_nil : EvD prog w c [] [] [] := fun pos K s Q E ok q => pairTrees_nil_walk (q K [] s (.refl ok.inH) ⟨[], trivial, .nil⟩)
theorem evD_cons {k v : Expr} {ks : List (Option Expr)} {vs : List Expr} {kk : Key} {d : D} {l : List (Key × D)} (hk : Ev prog w c k (keyD kk)) (hv : Ev prog w c v d) (h : EvD prog w c ks vs l) : EvD prog w c (some k :: ks) (v :: vs) ((kk, d) :: l) := fun pos K s Q E ok q =>
  pairTrees_cons_walk (hk K s _ E ok fun K1 kv s1 n1 r1 => hv K1 s1 _ E (ok.next n1) fun K2 vv s2 n2 r2 => h pos K2 s2 _ E ((ok.next n1).next n2) fun K3 us s3 n3 ⟨kvs, hc, hd⟩ => q K3 _ s3 ((n1.trans n2).trans n3)
    ⟨(kk, vv) :: kvs, ⟨key_is r1, rfl, hc⟩, ⟨by rw [List.map_cons, List.map_cons, hd.keys], .cons (r2.mono n3.sub) hd.vals⟩⟩)
theorem merged_rep {K : KM} : ∀ {kvs : List (Key × Value)} {l : List (Key × D)} {acc : List (Key × Value)} {l0 : List (Key × D)}, DAt prog w K kvs l → DAt prog w K acc l0 → DAt prog w K (merged acc kvs) (puts l l0)
  | [], [], acc, l0, _, h => h
  | [], _ :: _, _, _, h, _ => by have := h.keys; cases this
  | _ :: _, [], _, _, h, _ => by have := h.keys; cases this
  | (k1, v1) :: kvs, (k2, d2) :: l, acc, l0, h, h0 => by
    have hk := h.keys
    simp only [List.map_cons, List.cons.injEq] at hk
    obtain ⟨rfl, hk⟩ := hk
    have hv := h.vals
    simp only [List.map_cons] at hv
    cases hv with
    | cons r rs => exact merged_rep (kvs := kvs) (l := l) ⟨hk, rs⟩ (h0.put r)
theorem evn_dict {ks : List (Option Expr)} {vs : List Expr} {pos : Pos} {l : List (Key × D)} (h : EvD prog w c ks vs l) (hall : ks.all (·.isSome) = true := by rfl) (hl : ks.length = vs.length := by rfl) (h0 : ks ≠ [] := by simp) (hlen : ks.length ≤ 15 := by simp) (hz : l.length ≤ lim) : EvN prog w c (.Dict ks vs pos) (mkD (puts l [])) := fun K s Q E ok q => by
  have n0 : Next K s K { s with heap := s.heap.push { cls := .type "dict", data := .dict #[] } } := .keep ok.inH (kp_push s _)
  have f0 := get_size s.heap
  have k0 := none_of_fresh ok.inH f0
  refine wpAny_Dict_walk (knd := keyKind prog w) hall hl h0 hlen (h pos K _ _ E (ok.next n0) fun K1 us s1 n1 ⟨kvs, hc, hd⟩ => ?_)
  have hnew : (s.heap.push { cls := .type "dict", data := .dict #[] }).DictOf (keyKind prog w) s.heap.objs.size [] := Heap.DictOf.new s.heap
  have al : ∃ o, (s.heap.push { cls := .type "dict", data := .dict #[] }).get? s.heap.objs.size = some o := ⟨_, Heap.get?_push_size _ rfl⟩
  have k1 : K1 s.heap.objs.size = none := let ⟨o, e⟩ := al; n1.notIn k0 e
  refine ⟨kvs, hc, hnew.keep fun b o e => n1.keeps.get e, fun h' hd' hs' => ?_⟩
  have nn : Next K s K1 { s1 with heap := h', toks := s1.toks + us.length } := (n0.trans n1).touched f0 k1 hs' _
  exact q K1 _ _ nn f0 k1 (top_dict hd' (merged_rep hd .nil) (ok.notMods (Nat.le_refl _)) (by have := puts_len l []; simp at this; omega))

def dictOk (ks : List (Option Expr)) (vs : List Expr) : Bool := ks.all (·.isSome) && Nat.beq ks.length vs.length && !ks.isEmpty && Nat.ble ks.length 15
theorem evn_dictE {ks : List (Option Expr)} {vs : List Expr} {pos : Pos} {l : List (Key × D)} {d : D} (h : EvD prog w c ks vs l) (e : mkD (puts l []) = d) (hc : dictOk ks vs = true) (hz : l.length ≤ lim) : EvN prog w c (.Dict ks vs pos) d := by
  unfold dictOk at hc
  simp only [Bool.and_eq_true, Bool.not_eq_true'] at hc
  obtain ⟨⟨⟨h1, h2⟩, h3⟩, h4⟩ := hc
  subst e
  exact evn_dict h h1 (Nat.eq_of_beq_eq_true h2) (fun q => by rw [q] at h3; cases h3) (Nat.le_of_ble_eq_true h4) hz
theorem ev_dictE {ks : List (Option Expr)} {vs : List Expr} {pos : Pos} {l : List (Key × D)} {d : D} (h : EvD prog w c ks vs l) (e : mkD (puts l []) = d) (hc : dictOk ks vs = true) (hz : l.length ≤ lim) : Ev prog w c (.Dict ks vs pos) d := .ofN (evn_dictE h e hc hz)

/-! ## dict(zip(tuple, list)) -/
theorem evn_dictzip {e1 e2 : Expr} {p1 p2 pos1 pos2 : Pos} {ks : List Key} {vs : List D} (h1 : Ev prog w c e1 (.tuple (ks.map keyD))) (h2 : Ev prog w c e2 (.list vs)) (hl : ks.length = vs.length)
    (hk1 : c.env.kindOf "dict" = some .globalImplicit := by rfl) (hk2 : c.env.kindOf "zip" = some .globalImplicit := by rfl) (he0 : starEach [.Call (.Name "zip" p2) [e1, e2] [] pos2] c.env = (false, eval (.Call (.Name "zip" p2) [e1, e2] [] pos2) c.env) :: starEach [] c.env := by rfl)
    (he : starEach [e1, e2] c.env = (false, eval e1 c.env) :: starEach [e2] c.env := by rfl) (he2 : starEach [e2] c.env = (false, eval e2 c.env) :: starEach [] c.env := by rfl) :
    EvN prog w c (.Call (.Name "dict" p1) [.Call (.Name "zip" p2) [e1, e2] [] pos2] [] pos1) (mkD (puts (ks.zip vs) [])) := fun K s Q E ok q => by
  refine raw1 ok (T := "dict") (by simp [biTab]) ?_ hk1 (by decide) he0
  refine raw2 ok (T := "zip") (by simp [biTab]) ?_ hk2 (by decide) he he2
  refine h1 K s _ E ok fun K1 v1 s1 n1 r1 => h2 K1 s1 _ E (ok.next n1) fun K2 v2 s2 n2 r2 => ?_
  have ok2 := (ok.next n1).next n2
  have r1' := r1.mono n2.sub
  cases r1' with
  | @tuple a oa us na _ g1 g2 g3 g4 g5 =>
  cases r2 with
  | @list b ob ws nb _ j1 j2 j3 j4 j5 j6 =>
  have ga := ok2.inH _ _ g1
  have gb := ok2.inH _ _ j1
  have hta : s2.heap.IsTuple a us.toArray := ⟨oa, ga, g2, na, g3⟩
  have hlb : s2.heap.IsList b ws.toArray := ⟨ob, gb, j2, nb, j3⟩
  refine call_zip (wpAny_pyIter_tuple hta ?_)
  refine wpAny_pyIter_list (hlb.push _) ?_
  intro h' z TI TO hzat hTI hTO fz fTI fTO d1 d2 d3 hk
  have fI := get_size s2.heap
  have fJ : s2.heap.get? (s2.heap.push { cls := .type "tuple_iterator", data := .fields #[.ref a, .int 0 0] }).objs.size = none := none_ge (by rw [Heap.size_push]; exact Nat.le_succ _)
  have kk : ∀ b o, s2.heap.get? b = some o → h'.get? b = some o := fun b o e => hk b o (Heap.get?_push_of_some _ (Heap.get?_push_of_some _ e))
  have down : ∀ {b : Addr}, ((s2.heap.push { cls := .type "tuple_iterator", data := .fields #[.ref a, .int 0 0] }).push { cls := .type "list_iterator", data := .fields #[.ref b, .int 0 0] }).get? b = none → True := fun _ => trivial
  have n3 : Next K2 s2 K2 { s2 with heap := h' } := .keep ok2.inH (.of s2.toks kk)
  have itI : h'.IsTupleIter s2.heap.objs.size a 0 := ⟨_, hk _ _ (Heap.get?_push_of_some _ (Heap.get?_push_size _ rfl)), rfl, rfl⟩
  have itJ : h'.IsListIter (s2.heap.push { cls := .type "tuple_iterator", data := .fields #[.ref a, .int 0 0] }).objs.size b 0 := ⟨_, hk _ _ (Heap.get?_push_size _ rfl), rfl, rfl⟩
  have neIJ : s2.heap.objs.size ≠ (s2.heap.push { cls := .type "tuple_iterator", data := .fields #[.ref a, .int 0 0] }).objs.size := by rw [Heap.size_push]; exact Nat.ne_of_lt (Nat.lt_succ_self _)
  have hneI : ∀ {x : Addr}, ((s2.heap.push { cls := .type "tuple_iterator", data := .fields #[.ref a, .int 0 0] }).push { cls := .type "list_iterator", data := .fields #[.ref b, .int 0 0] }).get? x = none → s2.heap.get? x = none ∧ x ∉ [s2.heap.objs.size] ++ [(s2.heap.push { cls := .type "tuple_iterator", data := .fields #[.ref a, .int 0 0] }).objs.size] := fun {x} h => by
    refine ⟨?_, fun hm => ?_⟩
    · cases e : s2.heap.get? x with
      | none => rfl
      | some o => rw [Heap.get?_push_of_some _ (Heap.get?_push_of_some _ e)] at h; cases h
    · rcases List.mem_append.mp hm with hm | hm
      · rcases List.mem_cons.mp hm with e | hm
        · subst e; rw [Heap.get?_push_of_some _ (Heap.get?_push_size _ rfl)] at h; cases h
        · cases hm
      · rcases List.mem_cons.mp hm with e | hm
        · subst e; rw [Heap.get?_push_size _ rfl] at h; cases h
        · cases hm
  have S1 := src_tuple (A := c.A.in1.in1.in1) (K₀ := K2) (I := s2.heap.objs.size) ok.hand g1 g2 g3 g4 (Nat.ne_of_lt (Heap.lt_size ga))
  have S2 := src_list (A := c.A.in1.in1.in1) (K₀ := K2) (I := (s2.heap.push { cls := .type "tuple_iterator", data := .fields #[.ref a, .int 0 0] }).objs.size) ok.hand j1 j2 j3 j4 (by rw [Heap.size_push]; exact Nat.ne_of_lt (Nat.lt_succ_of_lt (Heap.lt_size gb)))
  have SS := Srcs.two S1 S2 (fun x hx hm => by
    rcases List.mem_cons.mp hx with e | hx
    · subst e
      rcases List.mem_cons.mp hm with e | hm
      · exact neIJ e
      · cases hm
    · cases hx) (by rw [List.length_map]; exact hl)
  have hzip : (ks.map keyD).zip vs = (ks.zip vs).map fun p => (keyD p.1, p.2) := by
    rw [List.zip_map_left]; rfl
  rw [hzip] at SS
  have frW : ∀ x ∈ z :: TI :: TO :: ([s2.heap.objs.size] ++ [(s2.heap.push { cls := .type "tuple_iterator", data := .fields #[.ref a, .int 0 0] }).objs.size]), s2.heap.get? x = none ∧ K2 x = none := fun x hx => by
    have : s2.heap.get? x = none := by
      rcases List.mem_cons.mp hx with rfl | hx
      · exact (hneI fz).1
      rcases List.mem_cons.mp hx with rfl | hx
      · exact (hneI fTI).1
      rcases List.mem_cons.mp hx with rfl | hx
      · exact (hneI fTO).1
      rcases List.mem_append.mp hx with hx | hx
      · rcases List.mem_cons.mp hx with rfl | hx
        · exact fI
        · cases hx
      · rcases List.mem_cons.mp hx with rfl | hx
        · exact fJ
        · cases hx
    exact ⟨this, none_of_fresh ok2.inH this⟩
  refine dict_zip (xs := ks.zip vs) (ok2.next n3) SS (by rw [List.length_zip]; exact Nat.le_trans (Nat.min_le_right _ _) j5) hzat hTI hTO d1 d2 d3 (hneI fz).2 (hneI fTI).2 (hneI fTO).2 ⟨⟨itI, .refl _, n3.inH⟩, ⟨itJ, .refl _, n3.inH⟩⟩ (fun x hx => (frW x hx).2) fun Ka x sa ta hx hxa tx => ?_
  have nz : Next K2 s2 Ka sa := by
    have t0 : Stp [] K2 s2 K2 { s2 with heap := h' } := stp_start n3 fun b hb => nomatch hb
    exact (t0.over ta (fun b hb => .inr (frW b hb).1) fun b hb => nomatch hb).toNext fun b hb => nomatch hb
  refine q Ka x sa ((n1.trans n2).trans nz) ?_ hxa tx
  exact (n1.trans n2).keeps.none (n3.keeps.none hx)

/-! ## int(b'12') -/
theorem bytes_int : typeLookup (.type "bytes") "__int__" = pure none := by rw [typeLookup_type, builtinLookup_eq_fast]; kernel_rfl
theorem bytes_idx : typeLookup (.type "bytes") "__index__" = pure none := by rw [typeLookup_type, builtinLookup_eq_fast]; kernel_rfl
theorem bytes_trunc : typeLookup (.type "bytes") "__trunc__" = pure none := by rw [typeLookup_type, builtinLookup_eq_fast]; kernel_rfl
set_option maxHeartbeats 4000000 in
theorem gives_b12 {u : Tok} : PySem.Gives (Builtin.«int.__new__» ⟨[.type "int", .bytes #[49, 50] u], []⟩) (.int 12) :=
  .of_wp fun M A E s Q h => by
    obtain ⟨hp, g, d, tk, os⟩ := s
    have f1 := PySem.F.conv_sub_int
    have f2 := PySem.F.madeHere_int
    have f3 := bytes_int
    have f4 := bytes_idx
    have f5 := bytes_trunc
    have f6 : typeOf (.bytes #[49, 50] u) = pure (.type "bytes") := rfl
    have f7 := PySem.F.sub_bytes_str
    have f8 := PySem.F.sub_bytes_bytes
    repeat (any_goals (first
      | assumption
      | ((with_reducible show wpAny _ _ ((int_private% "intFromText") _ _ _) _ _ _); refine KIN.wp_text (n := 12) (by decide) (by kernel_rfl) (by decide) ?_)
      | wp_step))
    all_goals first | exact ⟨_, rfl, h⟩ | skip
theorem ev_int12 {e : Expr} {p pos : Pos} (h : Ev prog w c e (.bytes [49, 50])) (hk : c.env.kindOf "int" = some .globalImplicit := by rfl) (he : starEach [e] c.env = (false, eval e c.env) :: starEach [] c.env := by rfl) : Ev prog w c (.Call (.Name "int" p) [e] [] pos) (.int 12) := fun K s Q E ok q => by
  refine raw1 ok (T := "int") (by simp [biTab]) (h K s _ E ok fun K1 v s1 n1 r1 => ?_) hk (by decide) he
  cases r1 with
  | bytes _ t =>
  exact call_int_1 gives_b12.meets (show (Made.int 12).post _ s1 from ⟨rfl, q K1 _ _ (n1.trans (.toks n1.inH _)) (.int 12 _)⟩)
end
end Mine
namespace Mine
section
variable {prog : Program} {w : World} {c : Cx}
def keys4 : List Key := [.s "message_id", .s "consumer", .s "time_since_delivered", .s "times_delivered"]
theorem bind_range {B : Heap} {fd : FuncData} (h : FnIs B fd 13) (u : Value) : bindArgs fd ⟨[u], []⟩ = pure [((("response" : Str), u) : Str × Value)] := by
  have hd := no_default h (by decide)
  unfold bindArgs
  simp only [h.params, hd]
  rfl
def rangeD (ys : List (List D)) : D := .list (ys.map fun y => mkD (puts (keys4.zip y) []))
set_option maxHeartbeats 4000000 in
theorem spec_range {A : Around} {n : Nat} (hA : Fit A (n + 1)) {ys : List (List D)} (h4 : ∀ y ∈ ys, y.length = 4) : Spec prog w A 13 [.list (ys.map D.list)] [] (rangeD ys) := by
  intro B KB a ob fd K s vs kvs R hB hKB h1 h2 h3 h4' hK hvs hkw q
  obtain ⟨v, rfl, rv⟩ := all_one hvs
  obtain rfl := kw_none hkw
  refine enter (ρ := [("response", .list (ys.map D.list))]) (Fit.here hA) hA.hand hB hKB h1 h2 h3 h4' hK (fun Q E hq => by
    rw [bind_range h3]
    exact wpAny_pure (hq K _ s (.refl hK) rfl (.cons rv .nil))) rfl rfl rfl (fun _ _ _ => rfl) fun L qn code => ?_
  show Runs prog w ⟨A.deeper (fenv 13 L a qn code), fenv 13 L a qn code, [("response", .list (ys.map D.list))], [], B, KB⟩ _ _ _
  refine r_assign (d := .tuple (keys4.map keyD)) (.ofN (evn_tuple (evL_cons ev_str (evL_cons ev_str (evL_cons ev_str (evL_cons ev_str evL_nil)))) (Nat.le_trans (show (4 : Nat) ≤ 64 by decide) (by decide)))) ?_
  refine r_ret (.ofN (e_comp (xs := ys) (φ := D.list) (p := fun _ => true) (g := fun y => mkD (puts (keys4.zip y) [])) (β := fun y => [("r", .list y)]) [("k", .tuple (keys4.map keyD))] (evIt_list (ev_name rfl)) ⟨rfl, rfl, rfl, rfl⟩ (.cons rfl rfl .nil) (fun d hd C => puts_name rfl rfl) (fun d hd => rfl) (fun d hd C => evF_nil) (fun d hd _ C => ?_))) fun K' v s' st r => q K' v s' (st.toNext fun b hb => nomatch hb) ?_
  · exact .ofN (evn_dictzip (ev_name rfl) (ev_name rfl) (by rw [h4 d hd]; rfl))
  · rw [filt_all] at r; exact r
theorem spec_pend_detail {A : Around} {n : Nat} (hA : Fit A (n + 2)) {ys : List (List D)} (h4 : ∀ y ∈ ys, y.length = 4) : Spec prog w A 12 [.list (ys.map D.list)] [("parse_detail", .bool true)] (rangeD ys) := by
  intro B KB a ob fd K s vs kvs R hB hKB h1 h2 h3 h4' hK hvs hkw q
  obtain ⟨v, rfl, rv⟩ := all_one hvs
  obtain ⟨u, rfl, ru⟩ := kw_one hkw
  refine enter_k (k := "parse_detail") (Fit.here hA) hA.hand hB hKB h1 h2 h3 h4' hK rv ru (fun E Q hq => bind_k12_0 h3 hq) fun L qn code => ?_
  have hA1 : Fit (A.deeper (fenv 12 L a qn code)) (n + 1) := hA.deeper
  refine r_true (evT_bool (ev_get2 (.of (ev_name rfl) rfl) ev_str ev_bool (by rfl))) ?_
  exact r_ret (ev_call (f := "parse_xpending_range") (i := 13) (by simp [fnTab]) (evArgs_plain (evL_cons (ev_name rfl) evL_nil) (one_arg rfl)) (spec_range hA1 h4)) fun K' v s' st r => q K' v s' (st.toNext fun b hb => nomatch hb) r
def pendD (d0 d1 d2 : D) (ns : List D) : D := mkD (puts [(.s "pending", d0), (.s "min", d1), (.s "max", d2), (.s "consumers", .list (ns.map fun n => mkD (puts [(.s "name", n), (.s "pending", .int 12)] [])))] [])
def b12 : List UInt8 := [49, 50]
set_option maxHeartbeats 4000000 in
theorem spec_pend {A : Around} {n : Nat} (hA : Fit A (n + 1)) {d0 d1 d2 : D} {ns : List D} (hz : ns.length ≤ lim) : Spec prog w A 12 [.list [d0, d1, d2, if ns.isEmpty then .none else .list (ns.map fun n => .list [n, .bytes b12])]] [] (pendD d0 d1 d2 ns) := by
  intro B KB a ob fd K s vs kvs R hB hKB h1 h2 h3 h4' hK hvs hkw q
  obtain ⟨v, rfl, rv⟩ := all_one hvs
  obtain rfl := kw_none hkw
  refine enter_o (Fit.here hA) hA.hand hB hKB h1 h2 h3 h4' hK rv (fun E Q hq => bind_o12 h3 hq) fun L qn code => ?_
  have hA1 : Fit (A.deeper (fenv 12 L a qn code)) n := hA.deeper
  refine r_false (evT_bool (ev_get2 (.of (ev_name rfl) rfl) ev_str ev_bool (by rfl))) (runs_pop ?_)
  refine r_comp (xs := ns) (φ := fun n => .list [n, .bytes b12]) (p := fun _ => true) (g := fun n => mkD (puts [(.s "name", n), (.s "pending", .int 12)] [])) (β := fun n => [("n", n), ("p", .bytes b12)]) [] ?_ ⟨rfl, rfl, rfl, rfl⟩ .nil (fun d hd C => puts_list hA1.hand (putsL_cons rfl rfl (putsL_cons rfl rfl putsL_nil rfl) rfl) rfl rfl) (fun d hd => rfl) (fun d hd C => evF_nil) (fun d hd _ C => ?_) (fun ad had => ?_)
  · cases ns with
    | nil => exact evIt_list (ev_or_none (ev_subL (.of (ev_name rfl) rfl) ev_int (j := 3) rfl rfl) (.ofN (evn_list evL_nil (Nat.zero_le _))))
    | cons m ms => exact evIt_list (ev_or_ref (ev_subL (.of (ev_name rfl) rfl) ev_int (j := 3) rfl rfl) rfl)
  · refine @ev_dictE _ _ _ _ _ _ [(.s "name", d), (.s "pending", .int 12)] _ ?_ rfl (by rfl) (Nat.le_trans (show (2 : Nat) ≤ 64 by decide) (by decide))
    exact evD_cons ev_str (ev_name rfl) (evD_cons ev_str (ev_int12 (ev_name rfl)) evD_nil)
  · refine @r_seal prog w _ _ _ _ _ _ _ _ _ "consumers" _ _ [] ?_ (by exact had) .nil (by rfl)
    refine @r_ret prog w _ _ _ _ _ _ _ _ _ _ _ (pendD d0 d1 d2 ns) _ ?_ (by exact fun K' v s' st r => q K' v s' (st.toNext fun b hb => nomatch hb) r)
    refine @ev_dictE _ _ _ _ _ _ [(.s "pending", d0), (.s "min", d1), (.s "max", d2), (.s "consumers", .list ((ns.filter fun _ => true).map fun n => mkD (puts [(.s "name", n), (.s "pending", .int 12)] [])))] _ ?_ (by rw [filt_all]; rfl) (by rfl) (Nat.le_trans (show (4 : Nat) ≤ 64 by decide) (by decide))
    exact evD_cons ev_str (ev_subL (.of (ev_name rfl) rfl) ev_int (j := 0) rfl rfl) (evD_cons ev_str (ev_subL (.of (ev_name rfl) rfl) ev_int (j := 1) rfl rfl) (evD_cons ev_str (ev_subL (.of (ev_name rfl) rfl) ev_int (j := 2) rfl rfl) (evD_cons ev_str (ev_name rfl) evD_nil)))
end
end Mine
namespace Mine
section
variable {prog : Program} {w : World} {c : Cx} {α : Anc} {R : Flow → Shared → Prop} {bs : List (List Stmt)} {rest : List Stmt} {A : Around} {env : Env} {ρ : List (Str × D)} {O : List (Str × Addr × D)} {B : Heap} {KB : KM}
/-- return of an own object -/
theorem r_retO {x : Str} {px pos : Pos} {a : Addr} {d : D} (hx : O.lookup x = some (a, d)) (h : ∀ K' s', Stp α.W α.K α.s K' s' → K' a = none → TopAt prog w K' s'.heap a d → R (.ret (.ref a)) s') (hd : (x == ("__debug__" : Str)) = false := by decide) :
    Runs prog w ⟨A, env, ρ, O, B, KB⟩ α ((.Return (some (.Name x px)) pos :: rest) :: bs) R := fun K s E f => by
  obtain ⟨h1, h2, h3⟩ := f.ok.own x a d hx
  exact wpS_cons (wpAny_Return_some (wpAny_Name (load_var f.ok.env h1 (h K s f.stp h2 h3)) hd))

/-! ## parse_xautoclaim, its argument written -/
set_option maxHeartbeats 4000000 in
theorem xauto_run {A : Around} {n : Nat} (hA : Fit A (n + 3)) {a x : Addr} {ob : Obj} {fd : FuncData} {K : KM} {s : Shared} {d0 d2 : D} {xs : List Int} {R : Result → Shared → Prop} (hz : xs.length ≤ lim) (hB : BaseOk prog w B KB) (hKB : Sub KB K) (h1 : B.get? a = some ob) (h2 : ob.data = .func fd) (h3 : FnIs B fd 6)
    (h4 : ∀ b o, B.get? b = some o → s.heap.get? b = some o) (hK : InH K s.heap) (hx : K x = none) (ht : TopAt prog w K s.heap x (.list [d0, tolds false xs, d2]))
    (q : ∀ K' s', Stp [x] K s K' s' → K' x = none → TopAt prog w K' s'.heap x (.list [d0, seens false xs, d2]) → R (.ok (.ret (.ref x))) s') : codeAny (model prog w) A (.call (.ref a) ⟨[.ref x], []⟩) R s := by
  have hroom : A.depth < recursionLimit := Fit.here hA
  have hh := hA.hand
  refine codeAny_call_function hroom (h4 a ob h1) h2 (by rw [h3.scope]; rfl) (by rw [h3.scope]; rfl) h3.body (h3.code.keeps h4) ?_
  refine bind_o6 h3 ?_
  rw [h3.scope, h3.glob, h3.closure, h3.built]
  simp only [newFunctionEnv, Option.isSome_none, Bool.false_eq_true, if_false]
  generalize hs1 : ({ s with heap := s.heap.push { cls := .type "dict", data := .dict #[] } } : Shared) = s1
  have k1 : ∀ b o, s.heap.get? b = some o → s1.heap.get? b = some o := fun b o e => by rw [← hs1]; exact Heap.get?_push_of_some _ e
  have fD := get_size s.heap
  have kD := none_of_fresh hK fD
  have gD : s1.heap.get? s.heap.objs.size = some { cls := .type "dict", data := .dict #[] } := by rw [← hs1]; exact Heap.get?_push_size _ rfl
  have n0 : Next K s K s1 := by rw [← hs1]; exact .keep hK (kp_push s _)
  have mD : (s.heap.objs.size == sysModules) = false := by
    obtain ⟨mg, mb, ⟨og, _, _, eg, _⟩, _⟩ := hB.glob
    have h3 : (3 : Nat) < s.heap.objs.size := Heap.lt_size (h4 _ _ eg)
    have h2 : s.heap.objs.size ≠ sysModules := by
      intro e
      have h5 : @Eq Nat s.heap.objs.size 1 := e
      omega
    simpa using h2
  have tD : TopAt prog w K s1.heap s.heap.objs.size (mkD []) := by rw [← hs1]; exact top_dict (Heap.DictOf.new s.heap) .nil mD (Nat.zero_le _)
  obtain ⟨oD, hoD, rD⟩ := tD.seal n0.inH kD
  have n0 := n0.seal fD kD hoD
  have xal := top_alive ht
  have xD : x ≠ s.heap.objs.size := fun e => by
    obtain ⟨o, e'⟩ := xal
    rw [e, fD] at e'; cases e'
  generalize hK1 : K.set s.heap.objs.size oD = K1 at n0 rD
  have hx1 : K1 x = none := by rw [← hK1]; simp [KM.set, xD]; exact hx
  refine wpAny_bind (wpAny_alloc ?_)
  refine wpAny_bind (wpAny_layCells _ (fun name kind cells => by cases hkc : kind == NameKind.cell <;> simp [hkc]) _ _ _ _ ?_)
  have ok := cellsFrom_ok (scopeAt 6).names (s1.heap.push { cls := .type "frame", data := .dict #[] }) (s1.heap.objs.size + 1) [] ⟨fun _ _ hm => (nomatch hm), List.Pairwise.nil⟩ (by rw [Heap.size_push]; exact Nat.le_refl _)
  rw [Heap.size_push] at ok
  rw [show ({ s1 with heap := s1.heap.push { cls := .type "frame", data := .dict #[] } } : Shared).heap.objs.size = s1.heap.objs.size + 1 from Heap.size_push ..]
  have keep : ∀ b o, s1.heap.get? b = some o → (pushCells (s1.heap.push { cls := .type "frame", data := .dict #[] }) (scopeAt 6).names).get? b = some o := fun b o e => pushCells_keeps _ _ b o (Heap.get?_push_of_some _ e)
  have n2 : Next K1 s1 K1 { s1 with heap := pushCells (s1.heap.push { cls := .type "frame", data := .dict #[] }) (scopeAt 6).names } := .keep n0.inH (.of s1.toks keep)
  have nn := n0.trans n2
  have base : ∀ b o, B.get? b = some o → s1.heap.get? b = some o := fun b o e => k1 b o (h4 b o e)
  have hL : s.heap.get? s1.heap.objs.size = none := n0.keeps.none (get_size _)
  have hc : ∀ n b, (cellsFrom (s1.heap.objs.size + 1) (scopeAt 6).names []).lookup n = some b → s1.heap.objs.size + 1 ≤ b := fun n b h => (ok.empty n b (mem_of_lookup h)).2
  have x1 : ∃ o, s1.heap.get? x = some o := let ⟨o, e⟩ := xal; ⟨o, k1 x o e⟩
  have xlt : x < s1.heap.objs.size := let ⟨o, e⟩ := x1; Heap.lt_size e
  have g : Fr prog w { (fcx A 6 s1.heap.objs.size a (fd.qualname ++ ".<locals>.") fd.code [] B KB) with ρ := [], O := [], A := A.in1 } ⟨[x], K, s⟩ K1 { s1 with heap := pushCells (s1.heap.push { cls := .type "frame", data := .dict #[] }) (scopeAt 6).names } := by
    refine ⟨⟨⟨rfl, rfl, rfl⟩, hB, hh, hKB.trans n0.sub, fun b o e => keep b o (base b o e), n2.inH, fun x d h => (nomatch h), fun x a d h => (nomatch h)⟩, ?_, ?_, ?_, ⟨none_of_fresh n0.inH (get_size _), .inr hL⟩, fun n b h => ?_, fun n n' b h h' => ?_, fun x p h => (nomatch h), fun x y p q h => (nomatch h), fun b o h => ⟨?_, fun n b' h' => ?_, fun x p h => (nomatch h)⟩⟩
    · exact .ofNext nn (in_one ⟨hx, xal⟩)
    · exact in_one (let ⟨o, e⟩ := x1; ⟨o, keep x o e⟩)
    · exact ⟨_, (Heap.Ns.new s1.heap (.type "frame")).keeps (pushCells_keeps _ _)⟩
    · have hb := hc n b h
      have hf : s1.heap.get? b = none := none_ge (Nat.le_of_succ_le hb)
      exact ⟨⟨_, (ok.empty n b (mem_of_lookup h)).1⟩, none_of_fresh n0.inH hf, .inr (n0.keeps.none hf), Nat.ne_of_gt hb⟩
    · exact name_of_addr ok.apart (mem_of_lookup h) (mem_of_lookup h')
    · exact Nat.ne_of_lt (Heap.lt_size (base b o h))
    · exact Nat.ne_of_lt (Nat.lt_of_lt_of_le (Nat.lt_succ_of_lt (Heap.lt_size (base b o h))) (hc n b' h'))
  have tx : TopAt prog w K1 (pushCells (s1.heap.push { cls := .type "frame", data := .dict #[] }) (scopeAt 6).names) x (.list [d0, tolds false xs, d2]) := (ht.at_ fun o e => keep x o (k1 x o e)).grow n0.sub
  have noB : ∀ b, K b = none → ∀ o, B.get? b ≠ some o := fun b hb o e => by
    have := hKB _ _ (hB.all b o e)
    rw [hb] at this; cases this
  unfold bs2
  rw [List.forIn_cons]
  have st1 := fun (Q : Unit → Shared → Prop) (E : Value → Shared → Prop) q => @store_core prog w _ _ K1 _ "response" (.ref x) Q E g rfl q
  refine wpAny_bind (wpAny_bind (wpAny_bind (st1 _ _ fun s2 wr => wpAny_pure ?_)))
  have g2 := g.storedOwn wr hx1 tx (.inl (by simp)) ⟨Nat.ne_of_lt xlt, fun n b h => Nat.ne_of_lt (Nat.lt_of_lt_of_le (Nat.lt_succ_of_lt xlt) (hc n b h))⟩ (fun y p h => nomatch h) (noB x hx) rfl
  dsimp only
  rw [List.forIn_cons]
  have st2 := fun (Q : Unit → Shared → Prop) (E : Value → Shared → Prop) q => @store_core prog w _ _ K1 s2 "options" (.ref s.heap.objs.size) Q E g2 rfl q
  refine wpAny_bind (wpAny_bind (st2 _ _ fun s3 wr2 => wpAny_pure ?_))
  have g3 := g2.stored wr2 rD rfl
  dsimp only
  rw [List.forIn_nil]
  refine wpAny_pure (wpAny_pure ⟨hB.nolimit.keeps g3.ok.base, codeAny_func ?_⟩)
  have g4 : Fr prog w ⟨A.deeper (fenv 6 s1.heap.objs.size a (fd.qualname ++ ".<locals>.") fd.code), fenv 6 s1.heap.objs.size a (fd.qualname ++ ".<locals>.") fd.code, [("options", mkD [])], [("response", x, .list [d0, tolds false xs, d2])], B, KB⟩ ⟨[x], K, s⟩ K1 s3 := g3.around hh
  have run : Runs prog w ⟨A.deeper (fenv 6 s1.heap.objs.size a (fd.qualname ++ ".<locals>.") fd.code), fenv 6 s1.heap.objs.size a (fd.qualname ++ ".<locals>.") fd.code, [("options", mkD [])], [("response", x, .list [d0, tolds false xs, d2])], B, KB⟩ ⟨[x], K, s⟩ [bodyAt 6] (fun f s' => R (.ok (.ret (match f with | .ret v => v | _ => .none))) s') := by
    have hA1 : Fit (A.deeper (fenv 6 s1.heap.objs.size a (fd.qualname ++ ".<locals>.") fd.code)) (n + 2) := hA.deeper
    refine r_false (evT_bool (ev_get2 (.of (ev_name rfl) rfl) ev_str ev_bool (by rfl))) (runs_pop ?_)
    refine r_setL (k := 1) (ds := [d0, tolds false xs, d2]) (ev_call (f := "parse_stream_list") (i := 4) (by simp [fnTab]) (evArgs_plain (evL_cons (ev_subL (evr_own rfl) ev_int (j := 1) rfl rfl) evL_nil) (one_arg rfl)) (spec_psl (cl := false) (o := false) hA1 (by intro h; cases h) hz)) ev_int (by decide) (by show (1 : Int) < 3; decide) ?_
    exact r_retO rfl fun K' s' st hn t => q K' s' st hn t
  refine wpAny_mono (run K1 s3 _ g4) (fun f s'' h => ?_) fun _ _ x => x
  cases f <;> exact h
/-- the call, its argument new -/
theorem evn_xauto {n : Nat} {e : Expr} {p pos : Pos} {d0 d2 : D} {xs : List Int} (hA : Fit c.A (n + 3)) (h : EvN prog w c e (.list [d0, tolds false xs, d2])) (hz : xs.length ≤ lim) (hk : c.env.kindOf "parse_xautoclaim" = some .globalImplicit := by rfl) (he : starEach [e] c.env = (false, eval e c.env) :: starEach [] c.env := by rfl) :
    EvN prog w c (.Call (.Name "parse_xautoclaim" p) [e] [] pos) (.list [d0, seens false xs, d2]) := fun K s Q E ok q => by
  obtain ⟨a, o, fd, h1, h2, h3, h4⟩ := load_fn ok (f := "parse_xautoclaim") (i := 6) (by simp [fnTab]) hk (by decide)
  refine wpAny_Call_Name_kw (h4 p _ _ ?_)
  rw [he]
  refine callWith_function_kw (o := o) (fd := fd) (evalArgs_plain (spliced_cons (h K s _ E ok fun K1 x s1 n1 hf hn t => spliced_nil ⟨⟨n1.keeps.get (ok.base _ _ h1), h2⟩, wpAny_call ?_⟩)))
  refine xauto_run hA hz ok.mod (ok.kb.trans n1.sub) h1 h2 h3 (fun b o e => n1.keeps.get (ok.base b o e)) n1.inH hn t fun K2 s2 st hn2 t2 => ?_
  have nz : Next K s K2 s2 := by
    have t0 : Stp [] K s K1 s1 := stp_start n1 fun b hb => nomatch hb
    exact (t0.over st (fun b hb => .inr (in_one (p := fun b => s.heap.get? b = none) hf b hb)) fun b hb => nomatch hb).toNext fun b hb => nomatch hb
  exact q K2 x s2 nz hf hn2 t2
end
end Mine
namespace Mine
section
variable {prog : Program} {w : World} {c : Cx} {α : Anc} {R : Flow → Shared → Prop} {B : Heap} {KB : KM}
/-! ## parse_xinfo_stream, not full -/
abbrev Ent := Option (List UInt8 × List (Key × D))
def tE : Ent → D
  | none => .none
  | some p => .list [.bytes p.1, .list (flatP p.2)]
def sE : Ent → D
  | none => .none
  | some p => .tuple [.bytes p.1, mkD (puts p.2 [])]
def EntOk (F : Ent) : Prop := ∀ p, F = some p → 2 * p.2.length ≤ lim
def info5 (L G F La gr : D) : List (Key × D) := [(.s "length", L), (.s "last-generated-id", G), (.s "first-entry", F), (.s "last-entry", La), (.s "groups", gr)]
def infoL (L G F La gr : D) : List (List UInt8 × Str × D) := [(bLength, "length", L), (bLastGen, "last-generated-id", G), (bFirst, "first-entry", F), (bLast, "last-entry", La), (bGroups, "groups", gr)]
theorem infoL_dec (L G F La gr : D) : ∀ p ∈ infoL L G F La gr, Dec p.1 p.2.1 := fun p hp => by
  unfold infoL at hp
  rcases List.mem_cons.mp hp with rfl | hp
  · exact dec_length
  rcases List.mem_cons.mp hp with rfl | hp
  · exact dec_lastgen
  rcases List.mem_cons.mp hp with rfl | hp
  · exact dec_first
  rcases List.mem_cons.mp hp with rfl | hp
  · exact dec_last
  rcases List.mem_cons.mp hp with rfl | hp
  · exact dec_groups
  cases hp
theorem ev_ptd {n : Nat} {e : Expr} {p pos : Pos} {ps : List (Key × D)} (hA : Fit c.A (n + 1)) (h : Ev prog w c e (.list (flatP ps))) (hz : 2 * ps.length ≤ lim) (hk : c.env.kindOf "pairs_to_dict" = some .globalImplicit := by rfl) (he : starEach [e] c.env = (false, eval e c.env) :: starEach [] c.env := by rfl) : Ev prog w c (.Call (.Name "pairs_to_dict" p) [e] [] pos) (mkD (puts ps [])) :=
  ev_call (f := "pairs_to_dict") (i := 3) (by simp [fnTab]) (evArgs_plain (evL_cons h evL_nil he) (one_arg he)) (.ofN (spec_ptd hA hz)) hk
theorem lim16 {n : Nat} (h : n ≤ 16 := by decide) : n ≤ lim := Nat.le_trans h (by decide)
def body7 : List Stmt := match (bodyAt 7).tail with | .If _ b _ _ :: _ => b | _ => []
set_option maxHeartbeats 8000000 in
theorem info_ret {A : Around} {a L : Addr} {q : Str} {code : Value} {L0 G gr F La : D} {ad : Addr} (had : ad ∉ α.W)
    (fin : ∀ K' v s', Stp α.W α.K α.s K' s' → Rep prog w K' v (mkD (info5 L0 G F La gr)) → R (.ret v) s') :
    Runs prog w ⟨A.deeper (fenv 7 L a q code), fenv 7 L a q code, [], [("data", ad, mkD (info5 L0 G F La gr))], B, KB⟩ α [(bodyAt 7).drop 2] R := by
  refine r_seal "data" (O' := []) ?_ had .nil
  exact r_ret (ev_name rfl) fin
set_option maxHeartbeats 8000000 in
theorem info_last {A : Around} {n : Nat} (hA1 : Fit A (n + 1)) {a L : Addr} {q : Str} {code : Value} {L0 G gr F : D} {La : Ent} (hLa : EntOk La) {ad : Addr} (had : ad ∉ α.W)
    (hA : Fit (A.deeper (fenv 7 L a q code)) (n + 1))
    (fin : ∀ K' v s', Stp α.W α.K α.s K' s' → Rep prog w K' v (mkD (info5 L0 G F (sE La) gr)) → R (.ret v) s') :
    Runs prog w ⟨A.deeper (fenv 7 L a q code), fenv 7 L a q code, [], [("data", ad, mkD (info5 L0 G F (tE La) gr))], B, KB⟩ α [body7.drop 2, (bodyAt 7).drop 2] R := by
  refine r_assign (d := tE La) (ev_subD (k := "last-entry") (evr_own rfl) ev_str (by kernel_rfl)) ?_
  cases La with
  | none =>
    refine r_false (evT_bools (evA_and_false (evT_cmp (ev_name rfl) ev_none (evC_isNot rfl)))) (runs_pop (runs_pop ?_))
    exact r_less (info_ret had fin) .nil (.own rfl (by rfl) .nil)
  | some p =>
    refine r_true (evT_bools (evA_and_true (evT_cmp (ev_name rfl) ev_none (evC_isNot rfl)) (evA_and_true (evT_cmp (ev_subL (.of (ev_name rfl) rfl) ev_int (j := 0) rfl rfl) ev_none (evC_isNot rfl)) evA_nil_and))) ?_
    refine r_setD (k := .s "last-entry") (l := info5 L0 G F (tE (some p)) gr) (.ofN (evn_tuple (evL_cons (ev_subL (.of (ev_name rfl) rfl) ev_int (j := 0) rfl rfl) (evL_cons (ev_ptd hA (ev_subL (.of (ev_name rfl) rfl) ev_int (j := 1) rfl rfl) (hLa p rfl)) evL_nil)) lim8)) ev_str ?_ (Nat.le_trans (put_len _ _ _) (lim16 (n := 6)))
    refine runs_pop (runs_pop ?_)
    exact r_less (info_ret had fin) .nil (.own rfl (by kernel_rfl) .nil)
set_option maxHeartbeats 8000000 in
theorem info_tail {A : Around} {n : Nat} (hA : Fit A (n + 2)) {a L : Addr} {q : Str} {code : Value} {L0 G gr : D} {F La : Ent} (hF : EntOk F) (hLa : EntOk La) {ad : Addr} (had : ad ∉ α.W) {d : D} {l : List (Key × D)} (hl : mkD l = mkD (info5 L0 G (tE F) (tE La) gr))
    (fin : ∀ K' v s', Stp α.W α.K α.s K' s' → Rep prog w K' v (mkD (info5 L0 G (sE F) (sE La) gr)) → R (.ret v) s') :
    Runs prog w ⟨A.deeper (fenv 7 L a q code), fenv 7 L a q code, [("options", mkD []), ("response", d)], [("data", ad, mkD l)], B, KB⟩ α [(bodyAt 7).tail] R := by
  have hA1 : Fit (A.deeper (fenv 7 L a q code)) (n + 1) := hA.deeper
  have hA2 : Fit A (n + 1) := ⟨hA.hand, Nat.le_trans (by omega) hA.room⟩
  refine r_less (ρ' := [("options", mkD [])]) (O' := [("data", ad, mkD (info5 L0 G (tE F) (tE La) gr))]) ?_ (.cons rfl .nil) (.own rfl hl.symm .nil)
  refine r_true (evT_not (b := false) (evT_bool (ev_get2 (.of (ev_name rfl) rfl) ev_str ev_bool (by rfl)))) ?_
  refine r_assign (d := tE F) (ev_get1 (evr_own rfl) ev_str (by kernel_rfl)) ?_
  cases F with
  | none =>
    refine r_false (evT_bools (evA_and_false (evT_cmp (ev_name rfl) ev_none (evC_isNot rfl)))) (runs_pop ?_)
    exact r_less (info_last hA2 hLa had hA1 fin) .nil (.own rfl (by rfl) .nil)
  | some p =>
    refine r_true (evT_bools (evA_and_true (evT_cmp (ev_name rfl) ev_none (evC_isNot rfl)) (evA_and_true (evT_cmp (ev_subL (.of (ev_name rfl) rfl) ev_int (j := 0) rfl rfl) ev_none (evC_isNot rfl)) evA_nil_and))) ?_
    refine r_setD (k := .s "first-entry") (l := info5 L0 G (tE (some p)) (tE La) gr) (.ofN (evn_tuple (evL_cons (ev_subL (.of (ev_name rfl) rfl) ev_int (j := 0) rfl rfl) (evL_cons (ev_ptd hA1 (ev_subL (.of (ev_name rfl) rfl) ev_int (j := 1) rfl rfl) (hF p rfl)) evL_nil)) lim8)) ev_str ?_ (Nat.le_trans (put_len _ _ _) (lim16 (n := 6)))
    refine runs_pop ?_
    exact r_less (info_last hA2 hLa had hA1 fin) .nil (.own rfl (by kernel_rfl) .nil)
end
end Mine
namespace Mine
section
variable {prog : Program} {w : World} {c : Cx} {α : Anc} {R : Flow → Shared → Prop} {B : Heap} {KB : KM}
/-- the told list of five facts -/
def told5 (L G : D) (F La : Ent) (gr : D) : List D := [.bytes bLength, L, .bytes bLastGen, G, .bytes bFirst, tE F, .bytes bLast, tE La, .bytes bGroups, gr]
/-- the told table of five facts -/
def tkeys5 : List Key := [.b bLength, .b bLastGen, .b bFirst, .b bLast, .b bGroups]
theorem ev_ptdk {n : Nat} {e : Expr} {p pos kp bp : Pos} {ds ks vs' : List D} {l : List (List UInt8 × Str × D)} (hA : Fit c.A (n + 2)) (h : Ev prog w c e (.list ds)) (hl : ∀ p ∈ l, Dec p.1 p.2.1) (hk' : pickD ds none none (some 2) = ks) (hv : pickD ds (some 1) none (some 2) = vs') (hks : ks = l.map fun p => .bytes p.1) (hvs : vs' = l.map fun p => p.2.2) (hz : l.length ≤ lim) (hk : c.env.kindOf "pairs_to_dict" = some .globalImplicit := by rfl) (he : starEach [e] c.env = (false, eval e c.env) :: starEach [] c.env := by rfl) :
    EvN prog w c (.Call (.Name "pairs_to_dict" p) [e] [⟨some "decode_keys", .Constant (.bool true) 0 bp, kp⟩] pos) (mkD (puts (l.map fun p => (.s p.2.1, p.2.2)) [])) :=
  evn_call (f := "pairs_to_dict") (i := 3) (by simp [fnTab]) (evArgs_named (evL_cons h evL_nil he) (one_arg he) ev_bool) (spec_ptdk hA hl hk' hv hks hvs hz) hk
set_option maxHeartbeats 8000000 in
theorem spec_info {A : Around} {n : Nat} (hA : Fit A (n + 3)) {L0 G gr : D} {F La : Ent} (hF : EntOk F) (hLa : EntOk La) : Spec prog w A 7 [.list (told5 L0 G F La gr)] [] (mkD (info5 L0 G (sE F) (sE La) gr)) := by
  intro B KB a ob fd K s vs kvs R hB hKB h1 h2 h3 h4 hK hvs hkw q
  obtain ⟨v, rfl, rv⟩ := all_one hvs
  obtain rfl := kw_none hkw
  refine enter_o (Fit.here hA) hA.hand hB hKB h1 h2 h3 h4 hK rv (fun E Q hq => bind_o7 h3 hq) fun L qn code => ?_
  have hA1 : Fit (A.deeper (fenv 7 L a qn code)) (n + 2) := hA.deeper
  refine r_true (evT_bool (ev_isiR (T := "list") (.of (ev_name (d := .list (told5 L0 G F La gr)) rfl) rfl) (by simp [biTab]) isi_list_list)) ?_
  refine r_own (ev_ptdk (ds := told5 L0 G F La gr) (l := infoL L0 G (tE F) (tE La) gr) hA1 (ev_name rfl) (infoL_dec _ _ _ _ _) (by kernel_rfl) (by kernel_rfl) rfl rfl (lim16 (n := 5))) (fun ad had => runs_pop ?_)
  exact info_tail (n := n + 1) hA hF hLa had (by kernel_rfl) fun K' v s' st r => q K' v s' (st.toNext fun b hb => nomatch hb) r
set_option maxHeartbeats 8000000 in
theorem spec_infoT {A : Around} {n : Nat} (hA : Fit A (n + 3)) {L0 G gr : D} {F La : Ent} (hF : EntOk F) (hLa : EntOk La) : Spec prog w A 7 [.dict tkeys5 [L0, G, tE F, tE La, gr]] [] (mkD (info5 L0 G (sE F) (sE La) gr)) := by
  intro B KB a ob fd K s vs kvs R hB hKB h1 h2 h3 h4 hK hvs hkw q
  obtain ⟨v, rfl, rv⟩ := all_one hvs
  obtain rfl := kw_none hkw
  refine enter_o (Fit.here hA) hA.hand hB hKB h1 h2 h3 h4 hK rv (fun E Q hq => bind_o7 h3 hq) fun L qn code => ?_
  have hA1 : Fit (A.deeper (fenv 7 L a qn code)) (n + 2) := hA.deeper
  refine r_false (evT_bool (ev_isiR (T := "list") (.of (ev_name (d := .dict tkeys5 [L0, G, tE F, tE La, gr]) rfl) rfl) (by simp [biTab]) isi_dict_list)) ?_
  refine r_dcomp (xs := infoL L0 G (tE F) (tE La) gr) (φ := fun p => D.tuple [.bytes p.1, p.2.2]) (p := fun _ => true) (kf := fun p => .s p.2.1) (vf := fun p => p.2.2) (β := fun p => [("k", .bytes p.1), ("v", p.2.2)]) [] ((evIt_items (ev_name (d := .dict tkeys5 [L0, G, tE F, tE La, gr]) rfl)).eq rfl) ⟨rfl, rfl, rfl, rfl⟩ .nil
    (fun d hd C => puts_tuple hA1.hand (putsL_cons rfl rfl (putsL_cons rfl rfl putsL_nil rfl) rfl) rfl rfl) (fun d hd => rfl) (fun d hd C => evF_nil) (fun d hd _ C => ⟨ev_call (f := "str_if_bytes") (i := 1) (by simp [fnTab]) (evArgs_plain (evL_cons (ev_name rfl) evL_nil) (one_arg rfl)) (spec_sib hA1 (infoL_dec _ _ _ _ _ d hd)), ev_name rfl⟩) (fun ad had => runs_pop ?_)
  exact info_tail (n := n + 1) hA hF hLa had (by kernel_rfl) fun K' v s' st r => q K' v s' (st.toNext fun b hb => nomatch hb) r
end
end Mine
namespace Mine
/-! ## a comprehension whose elements stay open -/
section
variable {prog : Program} {w : World} {c : Cx}
structure OneNew (prog : Program) (w : World) (s0 : Shared) (K : KM) (h : Heap) (a : Addr) (d : D) : Prop where
  old : s0.heap.get? a = none
  out : K a = none
  top : TopAt prog w K h a d
inductive News (prog : Program) (w : World) (s0 : Shared) (K : KM) (h : Heap) : List Addr → List D → Prop
  | nil : News prog w s0 K h [] []
  | cons {a : Addr} {d : D} {as : List Addr} {ds : List D} : OneNew prog w s0 K h a d → a ∉ as → News prog w s0 K h as ds → News prog w s0 K h (a :: as) (d :: ds)
theorem News.snoc {s0 : Shared} {K : KM} {h : Heap} {a : Addr} {d : D} (o : OneNew prog w s0 K h a d) : ∀ {as : List Addr} {ds : List D}, News prog w s0 K h as ds → a ∉ as → News prog w s0 K h (as ++ [a]) (ds ++ [d])
  | _, _, .nil, _ => .cons o (by intro h; cases h) .nil
  | _, _, .cons o' hn t, ha => .cons o' (fun h => by
      rcases List.mem_append.mp h with h | h
      · exact hn h
      · rcases List.mem_cons.mp h with h | h
        · exact ha (h ▸ List.mem_cons_self)
        · cases h) (t.snoc o fun h => ha (List.mem_cons_of_mem _ h))
theorem News.alive {s0 : Shared} {K : KM} {h : Heap} {a : Addr} : ∀ {as : List Addr} {ds : List D}, News prog w s0 K h as ds → a ∈ as → K a = none ∧ s0.heap.get? a = none ∧ ∃ o, h.get? a = some o
  | _, _, .cons o hn t, ha => by
    rcases List.mem_cons.mp ha with rfl | ha
    · exact ⟨o.out, o.old, top_alive o.top⟩
    · exact t.alive ha
theorem News.len {s0 : Shared} {K : KM} {h : Heap} : ∀ {as : List Addr} {ds : List D}, News prog w s0 K h as ds → as.length = ds.length
  | _, _, .nil => rfl
  | _, _, .cons o hn t => by simp [t.len]
theorem News.step {s0 : Shared} {K K' : KM} {h h' : Heap} : ∀ {as : List Addr} {ds : List D}, News prog w s0 K h as ds → (∀ a ∈ as, ∀ o, h.get? a = some o → h'.get? a = some o) → Sub K K' → (∀ a ∈ as, K' a = none) → News prog w s0 K' h' as ds
  | _, _, .nil, _, _, _ => .nil
  | _, _, .cons o hn t, hk, hs, hK => .cons ⟨o.old, hK _ List.mem_cons_self, (o.top.at_ (hk _ List.mem_cons_self)).grow hs⟩ hn (t.step (fun a ha => hk a (List.mem_cons_of_mem _ ha)) hs fun a ha => hK a (List.mem_cons_of_mem _ ha))
theorem News.stp {s0 s s' : Shared} {K K' : KM} {W : List Addr} {as : List Addr} {ds : List D} (n : News prog w s0 K s.heap as ds) (t : Stp W K s K' s') (hW : ∀ a ∈ as, a ∉ W) : News prog w s0 K' s'.heap as ds :=
  n.step (fun a ha o e => t.kept a o (hW a ha) e) t.sub fun a ha => by
    obtain ⟨h1, _, o, h2⟩ := n.alive ha
    cases q : K' a with
    | none => rfl
    | some o' => have := t.fresh a o' q h1; rw [h2] at this; cases this
theorem News.next {s0 s s' : Shared} {K K' : KM} {as : List Addr} {ds : List D} (n : News prog w s0 K s.heap as ds) (t : Next K s K' s') : News prog w s0 K' s'.heap as ds :=
  n.stp (W := []) (.ofNext t fun b hb => nomatch hb) fun a _ h => nomatch h
set_option maxHeartbeats 8000000 in
theorem comp_new {elt tgt iter : Expr} {scope : Scope} {pos pos' : Pos} {use : Option (Value → Sem Unit)} {T : Type} {xs : List T} {φ : T → D} {g : T → D} {β : T → List (Str × D)} {ρ' : List (Str × D)} {Q : Value → Shared → Prop} {E : Value → Shared → Prop} {K : KM} {s : Shared}
    (ok : Ok prog w c K s) (hit : EvIt prog w c tgt iter (xs.map φ)) (hc : CompOk c scope) (hρ : Passes c.env scope c.ρ ρ')
    (hput : ∀ d ∈ xs, ∀ C, Puts prog w c.A (compEnvC scope (gath c.env scope.names []) C c.env) tgt (φ d) (β d)) (hβ : ∀ d ∈ xs, locals? scope (β d) = true)
    (helt : ∀ d ∈ xs, ∀ C, EvN prog w (c.inn scope C (β d ++ ρ')) elt (g d))
    (hs : ∀ x, foldedSetIterable iter c.env x = pure x)
    (hQ : ∀ K' D C s' m as, Next K s K' s' → s.heap.get? D = none → K' D = none → s'.heap.PlainList D (as.map Value.ref).toArray → News prog w s K' s'.heap as (xs.map g) → (∀ a ∈ as, a ≠ D ∧ a ≠ C) → s.heap.get? C = none → K' C = none → C ≠ D → s'.heap.Ns C m →
      compPost (model prog w) c.A E use Q (.ref D) C (.ok .next) s') :
    wpAny (model prog w) c.A (comprehension (.ListComp elt [⟨tgt, iter, [], 0⟩] scope pos) scope c.env pos' (newList []) false (eval iter c.env) use) Q E s := by
  refine wpAny_comprehension_free rfl hs (closure_is hc.closes) hc.kind hc.names' (hit K s _ E ok fun K0 s0 I W St n0 it st0 hW hlim => ?_)
  have hWf : ∀ b ∈ W, s.heap.get? b = none := fun b hb => (hW b hb).2
  refine wpAny_newObj_type (wpAny_newFunctionEnv hc.cells' (by intro y hy; simp at hy) (fun h₁ hns₁ hsb₁ => ?_) hc.kind)
  dsimp only at hns₁ hsb₁ ⊢
  generalize hD : s0.heap.objs.size = D at hns₁ hsb₁ ⊢
  generalize hH2 : s0.heap.push { cls := .type "list", dict := none, data := .seq ([] : List Value).toArray } = H2 at hns₁ hsb₁ ⊢
  have hC : H2.objs.size = D + 1 := by rw [← hH2, Heap.size_push, hD]
  generalize hCe : H2.objs.size = C at hns₁ hsb₁ hC ⊢
  have hDC : D ≠ C := by rw [hC]; exact Nat.ne_of_lt (Nat.lt_succ_self _)
  have below : ∀ b o, s0.heap.get? b = some o → b ≠ C ∧ b ≠ D := fun b o e => by
    have hb := Heap.lt_size e
    rw [hD] at hb
    exact ⟨by rw [hC]; exact Nat.ne_of_lt (Nat.lt_succ_of_lt hb), Nat.ne_of_lt hb⟩
  have freshD : s0.heap.get? D = none := none_ge (by rw [hD]; exact Nat.le_refl _)
  have freshC : s0.heap.get? C = none := none_ge (by rw [hD, hC]; exact Nat.le_succ _)
  have old : ∀ b o, s0.heap.get? b = some o → h₁.get? b = some o := fun b o e => hsb₁.extBut b o (below b o e).1 (Heap.get?_push_of_some _ (hH2 ▸ Heap.get?_push_of_some _ e))
  have hacc : h₁.PlainList D [].toArray := ⟨_, hsb₁.extBut _ _ hDC (Heap.get?_push_of_some _ (hH2 ▸ hD ▸ Heap.get?_push_size _ rfl))⟩
  have n1 : Next K0 s0 K0 { s0 with heap := h₁, toks := s0.toks + ([] : List (Str × Value)).length } := .keep n0.inH (.of _ old)
  have hK0D := none_of_fresh n0.inH freshD
  have hK0C := none_of_fresh n0.inH freshC
  have hDW : D ∉ W := fun h => by
    obtain ⟨o, e⟩ := it.live 0 K0 _ st0 D h
    rw [freshD] at e; cases e
  have hCW : C ∉ W := fun h => by
    obtain ⟨o, e⟩ := it.live 0 K0 _ st0 C h
    rw [freshC] at e; cases e
  have inW : ∀ b, b ∈ D :: C :: W → b = D ∨ b = C ∨ b ∈ W := fun b hb => by simpa using hb
  have hfreshW : ∀ b ∈ D :: C :: W, s.heap.get? b = none := fun b hb => by
    rcases inW b hb with rfl | rfl | hb
    · exact n0.keeps.none freshD
    · exact n0.keeps.none freshC
    · exact hWf b hb
  have loop : ∀ s1 : Shared, s1 = { s0 with heap := h₁, toks := s0.toks + ([] : List (Str × Value)).length } →
      codeAny (model prog w) c.A (.compLoop (.ListComp elt [⟨tgt, iter, [], 0⟩] scope pos) 0 (.ref I) (.ref D) (compEnvC scope (gath c.env scope.names []) C c.env)) (compPost (model prog w) c.A E use Q (.ref D) C) s1 := by
    rintro s1 rfl
    refine codeAny_loop rfl (fun n s' => ∃ i K' as m, Stp (D :: C :: W) K s K' s' ∧ St i K' s'.heap ∧ n = xs.length + 1 - i ∧ i ≤ xs.length ∧ s'.heap.PlainList D (as.map Value.ref).toArray ∧ News prog w s K' s'.heap as ((xs.take i).map g) ∧ (∀ a ∈ as, a ∉ D :: C :: W) ∧ s'.heap.Ns C m) ?_ (xs.length + 1)
      ⟨0, K0, [], _, stp_start (n0.trans n1) (fun b hb => (by
        rcases inW b hb with rfl | rfl | hb
        · exact hK0D
        · exact hK0C
        · exact (hW b hb).1)), it.frame 0 K0 K0 _ _ st0 (.refl _) n1.inH (fun b _ o e => old b o e), rfl, Nat.zero_le _, hacc, by simpa using News.nil, (fun a h => nomatch h), hns₁⟩
    rintro n s' ⟨i, K', as, m, stp, st, rfl, hi, hD', hys, hout, hns⟩
    show wpAny _ c.A ((compTurn (.ListComp elt [⟨tgt, iter, [], 0⟩] scope pos) 0 (.ref I) (.ref D) (compEnvC scope (gath c.env scope.names []) C c.env)).onRaise (fun x => do noteFrame x _; theTreesLotGoes x)) _ _ s'
    refine wpAny_noted ?_
    rw [compTurn_list]
    refine wpAny_bind (wpAny_standAt ?_)
    have hKW : ∀ b ∈ W, K' b = none := fun b hb => stp.out b (by simp [hb])
    have hKD : K' D = none := stp.out D (by simp)
    have hKC : K' C = none := stp.out C (by simp)
    have aD : ∃ o, s'.heap.get? D = some o := let ⟨_, e⟩ := hD'; ⟨_, e⟩
    have aC : ∃ o, s'.heap.get? C = some o := let ⟨o, _, _, e, _⟩ := hns; ⟨o, e⟩
    have live' : ∀ b ∈ D :: C :: W, K' b = none ∧ ∃ o, s'.heap.get? b = some o := fun b hb => by
      rcases inW b hb with rfl | rfl | hb
      · exact ⟨hKD, aD⟩
      · exact ⟨hKC, aC⟩
      · exact ⟨hKW b hb, it.live i K' _ st b hb⟩
    have outC : ∀ a ∈ as, a ∉ [(compEnvC scope (gath c.env scope.names []) C c.env).locals] := fun a ha h => hout a ha (by
      rcases List.mem_cons.mp h with rfl | h
      · simp [compEnvC]
      · cases h)
    have outW : ∀ a ∈ as, a ∉ W := fun a ha h => hout a ha (by simp [h])
    rcases Nat.lt_or_ge i xs.length with hlt | hge
    · obtain ⟨d, hd⟩ : ∃ d, xs[i]? = some d := ⟨_, List.getElem?_eq_getElem hlt⟩
      have hmem : d ∈ xs := List.mem_of_getElem? hd
      have hd' : (xs.map φ)[i]? = some (φ d) := by rw [List.getElem?_map, hd]; rfl
      refine it.next hd' st stp.inH hKW (fun _ => rfl) fun K1 v s1 stp1 st1 r1 => ?_
      have e1 : Stp (D :: C :: W) K' s' K1 s1 := stp1.weaken (fun b hb => by simp [hb]) live'
      have hD1 : s1.heap.PlainList D (as.map Value.ref).toArray := hD'.at fun o e => stp1.kept D o hDW e
      have hC1 : s1.heap.Ns C m := hns.at' fun o e => stp1.kept C o hCW e
      have hys1 := hys.stp stp1 outW
      have hK1C : K1 C = none := e1.out C (by simp)
      refine wpAny_bind (hput d hmem C K1 s1 v m _ _ hC1 hK1C stp1.inH r1 fun s2 m2 stp2 hns2 hv2 ho2 => ?_)
      have live1 : ∀ b ∈ D :: C :: W, K1 b = none ∧ ∃ o, s1.heap.get? b = some o := fun b hb => ⟨e1.out b hb, by
        rcases inW b hb with rfl | rfl | hb
        · exact let ⟨_, e⟩ := hD1; ⟨_, e⟩
        · exact let ⟨o, _, _, e, _⟩ := hC1; ⟨o, e⟩
        · exact it.live _ K1 _ st1 b hb⟩
      have hys2 := hys1.stp stp2 outC
      have e2 : Stp (D :: C :: W) K s K1 s2 := (stp.trans e1).trans (stp2.weaken (fun b hb => by
        rcases List.mem_cons.mp hb with rfl | hb
        · simp [compEnvC]
        · cases hb) live1)
      have notC : ∀ b, b ≠ C → b ∉ [(compEnvC scope (gath c.env scope.names []) C c.env).locals] := fun b hb hm => by
        rcases List.mem_cons.mp hm with rfl | hm
        · exact hb rfl
        · cases hm
      have hD2 : s2.heap.PlainList D (as.map Value.ref).toArray := hD1.at fun o e => stp2.kept D o (notC D hDC) e
      have st2 : St (i + 1) K1 s2.heap := it.frame _ _ _ _ _ st1 (.refl _) stp2.inH fun b hb o e => stp2.kept b o (notC b (fun h => hCW (h ▸ hb))) e
      have okI : Ok prog w (c.inn scope C (β d ++ ρ')) K1 s2 := ok_comp (ok.next (e2.toNext hfreshW)) hc.kind hc.closes hρ (hβ d hmem) hns2 hv2
      have live2 : ∀ b ∈ D :: C :: W, K1 b = none ∧ ∃ o, s2.heap.get? b = some o := fun b hb => ⟨e2.out b hb, by
        rcases inW b hb with rfl | rfl | hb
        · exact let ⟨_, e⟩ := hD2; ⟨_, e⟩
        · exact let ⟨o, _, _, e, _⟩ := hns2; ⟨o, e⟩
        · exact it.live _ K1 _ st2 b hb⟩
      refine wpAny_bind (evF_nil (c := c.inn scope C (β d ++ ρ')) K1 s2 _ _ okI fun K3 s3 n3 => ?_)
      have e3 : Stp (D :: C :: W) K s K3 s3 := e2.trans (.ofNext n3 live2)
      have st3 : St (i + 1) K3 s3.heap := it.frame _ _ _ _ _ st2 n3.sub n3.inH fun b _ o e => n3.keeps.get e
      have hD3 : s3.heap.PlainList D (as.map Value.ref).toArray := hD2.at fun o e => n3.keeps.get e
      have hC3 := hns2.at' (h' := s3.heap) fun o e => n3.keeps.get e
      have hys3 := hys2.next n3
      refine wpAny_bind (wpAny_bind (helt d hmem C K3 s3 _ _ (okI.next n3) fun K4 y s4 n4 hf4 hn4 t4 => wpAny_bind ?_))
      have live3 : ∀ b ∈ D :: C :: W, K3 b = none ∧ ∃ o, s3.heap.get? b = some o := fun b hb => ⟨e3.out b hb, let ⟨o, e⟩ := (live2 b hb).2; ⟨o, n3.keeps.get e⟩⟩
      have e4 : Stp (D :: C :: W) K s K4 s4 := e3.trans (.ofNext n4 live3)
      have hD4 : s4.heap.PlainList D (as.map Value.ref).toArray := hD3.at fun o e => n4.keeps.get e
      have hys4 := hys3.next n4
      have yW : y ∉ D :: C :: W := fun h => by
        obtain ⟨_, o, e⟩ := live3 y h
        rw [hf4] at e; cases e
      have yas : y ∉ as := fun h => by
        obtain ⟨_, _, o, e⟩ := hys3.alive h
        rw [hf4] at e; cases e
      have yold : s.heap.get? y = none := by
        cases q : s.heap.get? y with
        | none => rfl
        | some o =>
          have hb : y ∉ D :: C :: W := yW
          rw [e3.kept y o hb q] at hf4; cases hf4
      have hlen : (as.map Value.ref).toArray.size ≤ sizeLine := by
        rw [List.size_toArray, List.length_map, hys.len, List.length_map]
        have a2 : (xs.take i).length ≤ xs.length := by rw [List.length_take]; exact Nat.min_le_right _ _
        rw [List.length_map] at hlim; exact lim_size (by omega)
      refine wpAny_list_append_plain (hsz := hlen) hD4 fun h5 hl5 hs5 => wpAny_pure (wpAny_pure ⟨rfl, xs.length + 1 - (i + 1), by omega, i + 1, K4, as ++ [y], m2, ?_, ?_, rfl, hlt, ?_, ?_, ?_, ?_⟩)
      · exact e4.trans (.mk' (tk := s4.toks) e4.inH e4.out fun b o hb e => hs5.extBut b o (fun h => hb (by simp [h])) e)
      · exact it.frame _ _ _ _ _ st3 n4.sub (fun b o e => (hs5.2 b (fun h => by have := e4.out b (by simp [h]); rw [this] at e; cases e)).trans (e4.inH b o e)) fun b hb o e => (hs5.2 b (fun h => hDW (h ▸ hb))).trans (n4.keeps.get e)
      · simpa using hl5
      · have ht : (xs.take (i + 1)).map g = (xs.take i).map g ++ [g d] := by
          rw [List.take_add_one, hd]; simp
        rw [ht]
        refine News.snoc ⟨yold, hn4, t4.at_ fun o e => (hs5.2 y (fun h => yW (by simp [h]))).trans e⟩ (hys4.step (fun a ha o e => (hs5.2 a (fun h => hout a ha (by simp [h]))).trans e) (.refl _) fun a ha => (hys4.alive ha).1) yas
      · intro a ha
        rcases List.mem_append.mp ha with ha | ha
        · exact hout a ha
        · rcases List.mem_cons.mp ha with rfl | ha
          · exact yW
          · cases ha
      · exact (hC3.at' (h' := s4.heap) fun o e => n4.keeps.get e).at' fun o e => (hs5.2 C hDC.symm).trans e
    · have hin : i = xs.length := Nat.le_antisymm hi hge
      subst hin
      refine wpAny_bind (it.done K' s' _ _ (by rw [List.length_map]; exact st) stp.inH hKW fun s1 stp1 => wpAny_pure ?_)
      have e1 : Stp (D :: C :: W) K s K' s1 := stp.trans (stp1.weaken (fun b hb => by simp [hb]) live')
      have n2 := e1.toNext hfreshW
      have hD1 : s1.heap.PlainList D (as.map Value.ref).toArray := hD'.at fun o e => stp1.kept D o hDW e
      have hC1 : s1.heap.Ns C m := hns.at' fun o e => stp1.kept C o hCW e
      rw [List.take_length] at hys
      exact hQ K' D C s1 m as n2 (n0.keeps.none freshD) hKD hD1 (hys.stp stp1 outW) (fun a ha => ⟨fun h => hout a ha (by simp [h]), fun h => hout a ha (by simp [h])⟩) (n0.keeps.none freshC) hKC hDC.symm hC1
  exact codeAny_compStart_list (loop _ rfl) (it.self 0 K0 _ _ _ (it.frame 0 K0 K0 _ _ st0 (.refl _) n1.inH (fun b _ o e => old b o e)) (loop _ rfl))
end
end Mine
namespace Mine
/-! ## lists of open objects -/
section
variable {prog : Program} {w : World} {c : Cx}
theorem all_addr {K : KM} : ∀ as : List Addr, All prog w K (as.map Value.ref) (as.map D.addr)
  | [] => .nil
  | a :: as => .cons (.addr a) (all_addr as)
/-- an expression whose value is a sealed list of new open objects -/
def EvOpen (prog : Program) (w : World) (c : Cx) (e : Expr) (ds : List D) : Prop :=
  ∀ (K : KM) (s : Shared) (Q : Value → Shared → Prop) (E : Value → Shared → Prop), Ok prog w c K s → (∀ K' v s' as, Next K s K' s' → Rep prog w K' v (.list (as.map D.addr)) → News prog w s K' s'.heap as ds → Q v s') → wpAny (model prog w) c.A (eval e c.env) Q E s
theorem evOpen_comp {elt tgt iter : Expr} {scope : Scope} {pos : Pos} {T : Type} {xs : List T} {φ : T → D} {g : T → D} {β : T → List (Str × D)} {ρ' : List (Str × D)}
    (hit : EvIt prog w c tgt iter (xs.map φ)) (hc : CompOk c scope) (hρ : Passes c.env scope c.ρ ρ')
    (hput : ∀ d ∈ xs, ∀ C, Puts prog w c.A (compEnvC scope (gath c.env scope.names []) C c.env) tgt (φ d) (β d)) (hβ : ∀ d ∈ xs, locals? scope (β d) = true)
    (helt : ∀ d ∈ xs, ∀ C, EvN prog w (c.inn scope C (β d ++ ρ')) elt (g d)) (hz : xs.length ≤ lim)
    (hs : ∀ x, foldedSetIterable iter c.env x = pure x := by intro _; rfl) : EvOpen prog w c (.ListComp elt [⟨tgt, iter, [], 0⟩] scope pos) (xs.map g) := fun K s Q E ok q => by
  rw [eval_ListComp]
  refine comp_new (use := none) ok hit hc hρ hput hβ helt hs fun K' D C s' m as n hD hKD hp nw hne hC hKC hCD hns => ?_
  refine ⟨m, hns, fun h' hs' => ?_⟩
  have n' : Next K s K' { s' with heap := h' } := n.touched hC hKC hs' s'.toks
  obtain ⟨nn, ho⟩ := hp
  have ho' : h'.get? D = some _ := (hs'.2 D hCD.symm).trans ho
  refine q (K'.set D _) (.ref D) _ as ⟨n'.keeps, n'.sub.trans (KM.sub_set hKD), KM.in_set n'.inH ho', fun a o h1 h2 => ?_⟩ (.list (KM.set_self _ _ _) rfl rfl (all_addr as) ?_) (nw.step (fun a ha o e => (hs'.2 a (hne a ha).2).trans e) (KM.sub_set hKD) fun a ha => ?_)
  · by_cases e : a = D
    · subst e; exact hD
    · simp only [KM.set, if_neg e] at h1
      exact n'.fresh a o h1 h2
  · have := nw.len
    rw [List.length_map] at this ⊢
    rw [this]; exact hz
  · simp only [KM.set, if_neg (hne a ha).1]
    exact (nw.alive ha).1
theorem News.get {s0 : Shared} {K : KM} {h : Heap} {a : Addr} : ∀ {as : List Addr} {ds : List D} {i : Nat}, News prog w s0 K h as ds → as[i]? = some a → ∃ d, ds[i]? = some d ∧ OneNew prog w s0 K h a d
  | _, _, 0, .cons o hn t, h => by cases h; exact ⟨_, rfl, o⟩
  | _, _, i + 1, .cons o hn t, h => t.get (i := i) h
  | _, _, 0, .nil, h => by cases h
  | _, _, i + 1, .nil, h => by cases h
theorem News.set {s0 : Shared} {K K' : KM} {h h' : Heap} {a : Addr} {d' : D} : ∀ {as : List Addr} {ds : List D} {i : Nat}, News prog w s0 K h as ds → as[i]? = some a → (∀ b ∈ as, b ≠ a → ∀ o, h.get? b = some o → h'.get? b = some o) → Sub K K' → (∀ b ∈ as, K' b = none) → TopAt prog w K' h' a d' → News prog w s0 K' h' as (ds.set i d')
  | _, _, 0, .cons o hn t, hi, hk, hs, hK, ht => by
    cases hi
    exact .cons ⟨o.old, hK _ List.mem_cons_self, ht⟩ hn (t.step (fun b hb => hk b (List.mem_cons_of_mem _ hb) fun e => hn (e ▸ hb)) hs fun b hb => hK b (List.mem_cons_of_mem _ hb))
  | _, _, i + 1, .cons o hn t, hi, hk, hs, hK, ht => by
    have hm := List.mem_of_getElem? (l := _) (i := i) (a := a) hi
    exact .cons ⟨o.old, hK _ List.mem_cons_self, (o.top.at_ (hk _ List.mem_cons_self fun e => hn (e ▸ hm))).grow hs⟩ hn (t.set (i := i) hi (fun b hb => hk b (List.mem_cons_of_mem _ hb)) hs (fun b hb => hK b (List.mem_cons_of_mem _ hb)) ht)
  | _, _, 0, .nil, hi, _, _, _, _ => by cases hi
  | _, _, i + 1, .nil, hi, _, _, _, _ => by cases hi
theorem News.seal {s0 s : Shared} : ∀ {as : List Addr} {ds : List D} {K : KM}, InH K s.heap → News prog w s0 K s.heap as ds → ∃ K', Sub K K' ∧ InH K' s.heap ∧ All prog w K' (as.map Value.ref) ds ∧ ∀ b, b ∉ as → K' b = K b
  | _, _, K, hK, .nil => ⟨K, .refl K, hK, .nil, fun _ _ => rfl⟩
  | _, _, K, hK, @News.cons _ _ _ _ _ a d as ds o hn t => by
    obtain ⟨ob, h1, r⟩ := o.top.seal (s := s) hK o.out
    have hs := KM.sub_set (o := ob) o.out
    have t' := t.step (fun _ _ _ e => e) hs fun b hb => (by
      have : b ≠ a := fun e => hn (e ▸ hb)
      simp only [KM.set, if_neg this]
      exact (t.alive hb).1)
    obtain ⟨K', k1, k2, k3, k4⟩ := News.seal (KM.in_set hK h1) t'
    refine ⟨K', hs.trans k1, k2, .cons (r.mono k1) k3, fun b hb => ?_⟩
    rw [k4 b fun h => hb (List.mem_cons_of_mem _ h)]
    have : b ≠ a := fun e => hb (e ▸ List.mem_cons_self)
    simp only [KM.set, if_neg this]
end
end Mine
namespace Mine
/-! ## a run with open objects -/
section
variable {prog : Program} {w : World} {c : Cx} {α : Anc} {R : Flow → Shared → Prop} {bs : List (List Stmt)} {rest : List Stmt}
def Far (c : Cx) (α : Anc) (a : Addr) : Prop := a ∉ α.W ∧ a ≠ c.env.locals ∧ (∀ n b, c.env.cells.lookup n = some b → a ≠ b) ∧ (∀ x p, c.O.lookup x = some p → p.1 ≠ a) ∧ ∀ o, c.B.get? a ≠ some o
def RunsO (prog : Program) (w : World) (c : Cx) (α : Anc) (as : List Addr) (ds : List D) (bs : List (List Stmt)) (R : Flow → Shared → Prop) : Prop :=
  ∀ (K : KM) (s : Shared) (E : Value → Shared → Prop), Fr prog w c α K s → News prog w α.s K s.heap as ds → (∀ a ∈ as, Far c α a) → wpS prog w c.A c.env R E bs s
theorem News.reold {s0 s1 : Shared} {K : KM} {h : Heap} : ∀ {as : List Addr} {ds : List D}, News prog w s0 K h as ds → (∀ a ∈ as, s1.heap.get? a = none) → News prog w s1 K h as ds
  | _, _, .nil, _ => .nil
  | _, _, .cons o hn t, hk => .cons ⟨hk _ List.mem_cons_self, o.out, o.top⟩ hn (t.reold fun a ha => hk a (List.mem_cons_of_mem _ ha))
theorem ro_setD {x : Str} {px sp pos : Pos} {ke e : Expr} {k : Key} {ds : List D} {a : Addr} {l : List (Key × D)} (he : EvOpen prog w c e ds) (hk : Ev prog w c ke (keyD k)) (hr : ∀ as, RunsO prog w { c with O := (x, a, mkD (put l k (.list (as.map D.addr)))) :: c.O } α as ds (rest :: bs) R) (hx : c.O.lookup x = some (a, mkD l) := by rfl) (hz : ∀ d, (put l k d).length ≤ lim)
    (hs : swapsWith e (some (.Subscript (.Name x px) ke sp)) pos.line c.env = pure false := by rfl) (hd : (x == ("__debug__" : Str)) = false := by decide) :
    Runs prog w c α ((.Assign [.Subscript (.Name x px) ke sp] e pos :: rest) :: bs) R := fun K s E f => wpS_cons (wpAny_Assign_Subscript (he K s _ E f.ok fun K1 v s1 as n1 r1 nw => by
  have f1 := f.next n1
  obtain ⟨h1, h2, h3⟩ := f1.ok.own x a _ hx
  refine wpAny_Name (load_var f1.ok.env h1 ?_) hd
  refine hk K1 s1 _ E f1.ok fun K2 key s2 n2 r2 => ?_
  have f2 := f1.next n2
  have nw2 := nw.next n2
  have sep : ∀ b ∈ as, Far { c with O := (x, a, mkD (put l k (.list (as.map D.addr)))) :: c.O } α b ∧ α.s.heap.get? b = none ∧ b ≠ a := fun b hb => by
    have hb0 := (nw.alive hb).2.1
    obtain ⟨g1, g2, g3⟩ := fresh_apart f hb0
    obtain ⟨a1, a2⟩ := fresh_anchor f hb0
    refine ⟨⟨a1, g1.1, g1.2, fun y p h => ?_, g3⟩, a2, fun e => g2 x _ hx e.symm⟩
    have h : ((x, a, mkD (put l k (.list (as.map D.addr)))) :: c.O).lookup y = some p := h
    rw [lookup_two] at h
    by_cases hy : y = x
    · rw [if_pos hy] at h; cases h; exact g2 x (a, mkD l) hx
    · rw [if_neg hy] at h; exact g2 y p h
  obtain ⟨_, _, g3⟩ := f2.ok.own x a _ hx
  generalize hl : mkD l = dd at g3
  cases g3 with
  | tuple => cases hl
  | list => cases hl
  | @dict o kvs _ us _ t1 t2 t3 t4 t5 t6 t7 t8 =>
  injection hl with e1 e2
  subst e1 e2 t5
  have hD : DAt prog w K2 kvs l := ⟨t4, t6⟩
  have hlen : kvs.length ≤ sizeLine := by rw [hD.len]; simp only [List.length_map] at t7; exact lim_size t7
  refine setItem_dict (key_is r2) (Heap.dictOf_iff.mpr ⟨o, t1, t2⟩) (fun h' hm' hs' => ?_) hlen
  exact hr as K2 _ E (f2.touched (s2.toks + 1) hx hs' (top_dict hm' (hD.put (r1.mono n2.sub)) t3 (hz _)))
    ((nw2.step (fun b hb o e => (hs'.2 b (sep b hb).2.2).trans e) (.refl _) fun b hb => (nw2.alive hb).1).reold fun b hb => (sep b hb).2.1) fun b hb => (sep b hb).1) hs)
end
end Mine
namespace Mine
/-! ## a for loop over open objects -/
section
variable {prog : Program} {w : World} {c : Cx} {α : Anc} {R : Flow → Shared → Prop} {bs : List (List Stmt)} {rest : List Stmt}
theorem Fr.adopt {K : KM} {s : Shared} {x : Str} {a : Addr} {d : D} (f : Fr prog w c α K s) (hv : c.ρ.lookup x = some (.addr a)) (hfar : Far c α a) (old : α.s.heap.get? a = none) (hK : K a = none) (t : TopAt prog w K s.heap a d) : Fr prog w { c with ρ := [], O := (x, a, d) :: c.O } α K s where
  ok := ⟨f.ok.env, f.ok.mod, f.ok.hand, f.ok.kb, f.ok.base, f.ok.inH, (fun _ _ h => nomatch h), fun y b e h => by
    have h : ((x, a, d) :: c.O).lookup y = some (b, e) := h
    rw [lookup_two] at h
    by_cases hy : y = x
    · subst hy
      rw [if_pos rfl] at h; cases h
      obtain ⟨v, h1, h2⟩ := f.ok.vars _ _ hv
      cases h2
      exact ⟨h1, hK, t⟩
    · rw [if_neg hy] at h; exact f.ok.own y b e h⟩
  stp := f.stp
  alive := f.alive
  ns := f.ns
  loc := f.loc
  cel := f.cel
  inj := f.inj
  own := fun y p h => by
    have h : ((x, a, d) :: c.O).lookup y = some p := h
    rw [lookup_two] at h
    by_cases hy : y = x
    · rw [if_pos hy] at h; cases h; exact ⟨.inr old, hfar.2.1, hfar.2.2.1⟩
    · rw [if_neg hy] at h; exact f.own y p h
  apart := fun y z p q h h' hne => by
    have h : ((x, a, d) :: c.O).lookup y = some p := h
    have h' : ((x, a, d) :: c.O).lookup z = some q := h'
    rw [lookup_two] at h h'
    by_cases hy : y = x
    · by_cases hz : z = x
      · exact absurd (hy.trans hz.symm) hne
      · rw [if_pos hy] at h; rw [if_neg hz] at h'; cases h; exact (hfar.2.2.2.1 z q h').symm
    · rw [if_neg hy] at h
      by_cases hz : z = x
      · rw [if_pos hz] at h'; cases h'; exact hfar.2.2.2.1 y p h
      · rw [if_neg hz] at h'; exact f.apart y z p q h h' hne
  base := fun b o h => ⟨(f.base b o h).1, (f.base b o h).2.1, fun y p h' => by
    have h' : ((x, a, d) :: c.O).lookup y = some p := h'
    rw [lookup_two] at h'
    by_cases hy : y = x
    · rw [if_pos hy] at h'; cases h'; intro e; have e : b = a := e; subst e; exact hfar.2.2.2.2 o h
    · rw [if_neg hy] at h'; exact (f.base b o h).2.2 y p h'⟩
theorem turn_at {ds ds' : List D} {i : Nat} (h : i ≤ ds'.length) : (ds'.take i ++ ds.drop i)[i]? = ds[i]? := by
  rw [List.getElem?_append_right (by rw [List.length_take]; omega), List.length_take, Nat.min_eq_left h, Nat.sub_self, List.getElem?_drop]; rfl
theorem turn_set {ds ds' : List D} {i : Nat} {d' : D} (h : ds'[i]? = some d') (hl : i < ds.length) : (ds'.take i ++ ds.drop i).set i d' = ds'.take (i + 1) ++ ds.drop (i + 1) := by
  have hi : i < ds'.length := (List.getElem?_eq_some_iff.mp h).1
  have ht : (ds'.take i).length = i := by rw [List.length_take]; omega
  rw [List.set_append_right _ _ (by omega), ht, Nat.sub_self, List.drop_eq_getElem_cons hl, List.set_cons_zero, List.take_add_one, h]
  simp
theorem ro_for {x : Str} {px : Pos} {iter : Expr} {body : List Stmt} {pos : Pos} {as : List Addr} {ds ds' : List D}
    (hit : EvIt prog w c (.Name x px) iter (as.map D.addr)) (hput : ∀ a, Puts prog w c.A c.env (.Name x px) (.addr a) [(x, .addr a)])
    (hkx : c.env.kindOf x = some .local) (hOx : c.O.lookup x = none) (hlen : ds'.length = ds.length)
    (hbody : ∀ (i : Nat) (a : Addr) (d d' : D) (α' : Anc), ds[i]? = some d → ds'[i]? = some d' → Runs prog w { c with ρ := [], O := (x, a, d) :: c.O } α' [body] (fun f s' => f = .next ∧ ∃ K', Fr prog w { c with ρ := [], O := (x, a, d') :: c.O } α' K' s'))
    (hr : RunsO prog w { c with ρ := [] } α as ds' (rest :: bs) R)
    (hs : ∀ x, foldedSetIterable iter c.env x = pure x := by intro _; rfl) : RunsO prog w c α as ds ((.For (.Name x px) iter body [] pos :: rest) :: bs) R := fun K s E f nw far => wpS_cons (by
  refine wpAny_For (hit K s _ E f.ok fun K0 s0 I W St n0 it st0 hW hlim => ?_) hs
  have nlen := nw.len
  have notx : ∀ y p, c.O.lookup y = some p → y ≠ x := fun y p h e => by rw [e, hOx] at h; cases h
  have hWd : ∀ b ∈ W, (b ∉ α.W ∧ α.s.heap.get? b = none) ∧ (b ≠ c.env.locals ∧ ∀ n a, c.env.cells.lookup n = some a → b ≠ a) ∧ (∀ y p, c.O.lookup y = some p → p.1 ≠ b) ∧ ∀ o, c.B.get? b ≠ some o := fun b hb => by
    have h := (hW b hb).2
    obtain ⟨h1, h2, h3⟩ := fresh_apart f h
    exact ⟨fresh_anchor f h, h1, h2, h3⟩
  have hWas : ∀ b ∈ W, b ∉ as := fun b hb h => by
    have h1 := (hW b hb).2
    obtain ⟨_, _, o, e⟩ := nw.alive h
    rw [h1] at e; cases e
  refine codeAny_loop' rfl (fun n s' => ∃ i K', n = as.length + 1 - i ∧ i ≤ as.length ∧ Fr prog w { c with ρ := [] } α K' s' ∧ News prog w α.s K' s'.heap as (ds'.take i ++ ds.drop i) ∧ St i K' s'.heap ∧ ∀ b ∈ W, K' b = none) ?_ (as.length + 1) ⟨0, K0, rfl, Nat.zero_le _, (f.next n0).less (fun _ _ h => nomatch h) (fun _ _ h => h), by simpa using nw.next n0, st0, fun b hb => (hW b hb).1⟩
  rintro n s' ⟨i, K', rfl, hi, g, nwi, st, hKW⟩
  show wpAny _ c.A ((forTurn (.Name x px) (.ref I) body [] c.env).onRaise (fun x => do noteFrame x c.env; theTreesLotGoes x)) _ _ s'
  refine wpAny_noted ?_
  rw [forTurn_eq]
  refine wpAny_bind (wpAny_standAt ?_)
  rcases Nat.lt_or_ge i as.length with hlt | hge
  · obtain ⟨a, ha⟩ : ∃ a, as[i]? = some a := ⟨_, List.getElem?_eq_getElem hlt⟩
    have ham : a ∈ as := List.mem_of_getElem? ha
    have hd : (as.map D.addr)[i]? = some (.addr a) := by rw [List.getElem?_map, ha]; rfl
    refine it.nextR hd st g.ok.inH hKW (fun _ => rfl) (fun e s' hx => wpAny_standAt hx) fun K1 v s1 stp1 st1 r1 => ?_
    have g1 : Fr prog w { c with ρ := [] } α K1 s1 := g.far stp1 hWd
    have nw1 := nwi.stp stp1 fun b hb h => hWas b h hb
    obtain ⟨m, hn⟩ := g1.ns
    refine wpAny_bind (hput a K1 s1 v m _ _ hn g1.loc.1 g1.ok.inH r1 fun s2 m2 stp2 hn2 hv2 ho2 => ?_)
    have g2 : Fr prog w { c with ρ := [(x, .addr a)] ++ [] } α K1 s2 := g1.put stp2 hn hn2 hv2 ho2 fun y d h => by
      rw [lookup_two] at h
      by_cases hy : y = x
      · subst hy; exact ⟨hkx, hOx⟩
      · rw [if_neg hy] at h; cases h
    have hnl : ∀ b, b ≠ c.env.locals → b ∉ [c.env.locals] := fun b hb hm => by
      rcases List.mem_cons.mp hm with h | h
      · exact hb h
      · cases h
    have nw2 := nw1.stp stp2 fun b hb => hnl b (far b hb).2.1
    have st2 : St (i + 1) K1 s2.heap := it.frame _ _ _ _ _ st1 (.refl _) stp2.inH fun b hb o e => stp2.kept b o (hnl b (hWd b hb).2.1.1) e
    obtain ⟨d, hdd, od⟩ := nw2.get ha
    rw [turn_at (by omega)] at hdd
    obtain ⟨d', hd'⟩ : ∃ d', ds'[i]? = some d' := ⟨_, List.getElem?_eq_getElem (by omega)⟩
    have g3 : Fr prog w { c with ρ := [], O := (x, a, d) :: c.O } α K1 s2 := g2.adopt (by show ([(x, D.addr a)] ++ []).lookup x = _; rw [List.append_nil, lookup_two, if_pos rfl]) (far a ham) od.old od.out od.top
    have hK1W : ∀ b ∈ W, K1 b = none := stp1.out
    refine wpAny_bind (wpAny_mono (hbody i a d d' _ hdd hd' K1 s2 _ g3.here) (fun fl s3 h3 => ?_) fun _ _ e => e)
    have h3' : fl = .next ∧ ∃ K', Fr prog w { c with ρ := [], O := (x, a, d') :: c.O } ⟨wrs { c with ρ := [], O := (x, a, d) :: c.O }, K1, s2⟩ K' s3 := by
      cases fl <;> exact h3
    obtain ⟨rfl, K2, g4⟩ := h3'
    have lk2 : ∀ (e : D) y p, ((x, a, e) :: c.O).lookup y = some p → (y = x ∧ p = (a, e)) ∨ c.O.lookup y = some p := fun e y p h => by
      rw [lookup_two] at h
      by_cases hy : y = x
      · rw [if_pos hy] at h; cases h; exact .inl ⟨hy, rfl⟩
      · rw [if_neg hy] at h; exact .inr h
    have lkn : ∀ (e : D) y p, c.O.lookup y = some p → ((x, a, e) :: c.O).lookup y = some p := fun e y p h => by
      rw [lookup_two, if_neg (notx y p h)]; exact h
    have g5 : Fr prog w { c with ρ := [], O := (x, a, d') :: c.O } α K2 s3 := g3.back g4 fun y p h => by
      rcases lk2 d' y p h with ⟨rfl, rfl⟩ | h
      · exact ⟨y, (a, d), by show ((y, a, d) :: c.O).lookup y = _; rw [lookup_two, if_pos rfl], rfl⟩
      · exact ⟨y, p, lkn d y p h, rfl⟩
    have nwr : ∀ b, b ≠ c.env.locals → (∀ n z, c.env.cells.lookup n = some z → b ≠ z) → (∀ y p, c.O.lookup y = some p → p.1 ≠ b) → b ≠ a → b ∉ wrs { c with ρ := [], O := (x, a, d) :: c.O } := fun b h1 h2 h3 h4 hm => by
      rcases wrs_mem hm with h | ⟨n, h⟩ | ⟨y, p, h, h'⟩
      · exact h1 h
      · exact h2 n b h rfl
      · rcases lk2 d y p h with ⟨_, rfl⟩ | h
        · exact h4 h'.symm
        · exact h3 y p h h'
    have gone : ∀ b, K1 b = none → (∃ o, s2.heap.get? b = some o) → K2 b = none := fun b h1 ⟨o, e⟩ => by
      cases q : K2 b with
      | none => rfl
      | some o' =>
        have e' : s2.heap.get? b = none := g4.stp.fresh b o' q h1
        rw [e] at e'; cases e'
    have nw3 := nw2.set ha (fun b hb hne o e => g4.stp.kept b o (nwr b (far b hb).2.1 (far b hb).2.2.1 (far b hb).2.2.2.1 hne) e) g4.stp.sub (fun b hb => gone b (nw2.alive hb).1 (nw2.alive hb).2.2) (g4.ok.own x a d' (by show ((x, a, d') :: c.O).lookup x = _; rw [lookup_two, if_pos rfl])).2.2
    rw [turn_set hd' (by rw [← hlen]; exact (List.getElem?_eq_some_iff.mp hd').1)] at nw3
    have hww : ∀ b ∈ W, b ∉ wrs { c with ρ := [], O := (x, a, d) :: c.O } := fun b hb => nwr b (hWd b hb).2.1.1 (hWd b hb).2.1.2 (hWd b hb).2.2.1 fun e => hWas b hb (e ▸ ham)
    exact wpAny_pure (.inl ⟨rfl, as.length + 1 - (i + 1), by omega, i + 1, K2, rfl, hlt, g5.less (fun _ _ h => nomatch h) (fun y p h => lkn d' y p h), nw3, it.frame _ _ _ _ _ st2 g4.stp.sub g4.stp.inH fun b hb o e => g4.stp.kept b o (hww b hb) e, fun b hb => gone b (hK1W b hb) (it.live _ _ _ st2 b hb)⟩)
  · have hin : i = as.length := Nat.le_antisymm hi hge
    subst hin
    refine wpAny_bind (wpAny_onRaise (it.done K' s' _ _ (by rw [List.length_map]; exact st) g.ok.inH hKW fun s1 stp1 => wpAny_pure (.inr ⟨rfl, codeAny_block (wpAny_execs_nil ?_)⟩)))
    have g1 : Fr prog w { c with ρ := [] } α K' s1 := g.far stp1 hWd
    have nw1 := nwi.stp stp1 fun b hb h => hWas b h hb
    have nl := nwi.len
    rw [List.take_of_length_le (by have := nw.len; omega), List.drop_of_length_le (by have := nw.len; omega), List.append_nil] at nw1
    exact hr K' s1 E g1 nw1 far)
end
end Mine
namespace Mine
/-! ## the open objects are sealed -/
section
variable {prog : Program} {w : World} {c : Cx} {α : Anc} {R : Flow → Shared → Prop} {bs : List (List Stmt)} {rest : List Stmt}
theorem All.last {K : KM} {d d' : D} (h : ∀ v, Rep prog w K v d → Rep prog w K v d') : ∀ {vs : List Value} {ds : List D}, All prog w K vs (ds ++ [d]) → All prog w K vs (ds ++ [d'])
  | _, [], .cons r .nil => .cons (h _ r) .nil
  | _, _ :: _, .cons r t => .cons r (All.last h t)
theorem addr_all {K : KM} : ∀ {vs : List Value} {as : List Addr}, All prog w K vs (as.map D.addr) → vs = as.map Value.ref
  | _, [], .nil => rfl
  | _, a :: as, .cons (.addr _) t => by rw [addr_all t]; rfl
theorem ro_end {x : Str} {a : Addr} {l : List (Key × D)} {k : Key} {as : List Addr} {ds : List D} (hr : Runs prog w { c with O := [(x, a, mkD (l ++ [(k, .list ds)]))] } α bs R) (hz : (l ++ [(k, D.none)]).length ≤ lim) (hx : c.O.lookup x = some (a, mkD (l ++ [(k, .list (as.map D.addr))])) := by rfl) : RunsO prog w c α as ds bs R := fun K s E f nw far => by
  obtain ⟨K', h1, h2, h3, h4⟩ := nw.seal (s := s) f.ok.inH
  have hl : ds.length = as.length := nw.len.symm
  have keep : ∀ b, K b = none → b ∉ as → K' b = none := fun b hb hn => by rw [h4 b hn]; exact hb
  have hone : ∀ y p, ([(x, a, mkD (l ++ [(k, .list ds)]))] : List (Str × Addr × D)).lookup y = some p → y = x ∧ p = (a, mkD (l ++ [(k, .list ds)])) := fun y p h => by
    rw [lookup_two] at h
    by_cases hy : y = x
    · rw [if_pos hy] at h; cases h; exact ⟨hy, rfl⟩
    · rw [if_neg hy] at h; cases h
  have up : ∀ v, Rep prog w K' v (.list (as.map D.addr)) → Rep prog w K' v (.list ds) := fun v r => by
    cases r with
    | list g1 g2 g3 g4 g5 g6 =>
      rw [addr_all g4] at g3
      exact .list g1 g2 g3 h3 (by rw [hl]; simpa using g5) g6
  have top : TopAt prog w K' s.heap a (mkD (l ++ [(k, .list ds)])) := by
    have t := (f.ok.own x a _ hx).2.2.grow h1
    generalize hm : mkD (l ++ [(k, .list (as.map D.addr))]) = dd at t
    cases t with
    | tuple => cases hm
    | list => cases hm
    | dict t1 t2 t3 t4 t5 t6 t7 t8 =>
      injection hm with e1 e2
      subst e1 e2
      rw [List.map_append] at t6
      refine .dict t1 t2 t3 (t4.trans (by simp)) t5 ?_ (by simpa using t7) t8
      rw [List.map_append]
      exact All.last up t6
  have g : Fr prog w { c with O := [(x, a, mkD (l ++ [(k, .list ds)]))] } α K' s :=
    { ok := ⟨f.ok.env, f.ok.mod, f.ok.hand, f.ok.kb.trans h1, f.ok.base, h2, (fun y d h => let ⟨v, p, q⟩ := f.ok.vars y d h; ⟨v, p, q.mono h1⟩), fun y b d h => by
        obtain ⟨rfl, e⟩ := hone y _ h
        cases e
        obtain ⟨p1, p2, _⟩ := f.ok.own _ _ _ hx
        exact ⟨p1, keep _ p2 fun hm => (far _ hm).2.2.2.1 _ _ hx rfl, top⟩⟩
      stp := ⟨f.stp.same, f.stp.kept, f.stp.sub.trans h1, h2, fun b o e1 e2 => by
          by_cases hb : b ∈ as
          · exact (nw.alive hb).2.1
          · rw [h4 b hb] at e1; exact f.stp.fresh b o e1 e2, fun b hb => keep b (f.stp.out b hb) fun hm => (far b hm).1 hb⟩
      alive := f.alive
      ns := f.ns
      loc := ⟨keep _ f.loc.1 fun hm => (far _ hm).2.1 rfl, f.loc.2⟩
      cel := fun n b h => let ⟨p1, p2, p3⟩ := f.cel n b h; ⟨p1, keep b p2 fun hm => (far b hm).2.2.1 n b h rfl, p3⟩
      inj := f.inj
      own := fun y p h => by
        obtain ⟨rfl, rfl⟩ := hone y p h
        exact f.own _ (a, mkD (l ++ [(k, .list (as.map D.addr))])) hx
      apart := fun y z p q h h' hne => by
        obtain ⟨rfl, rfl⟩ := hone y p h
        obtain ⟨rfl, rfl⟩ := hone z q h'
        exact absurd rfl hne
      base := fun b o h => ⟨(f.base b o h).1, (f.base b o h).2.1, fun y p h' => by
        obtain ⟨rfl, rfl⟩ := hone y p h'
        exact (f.base b o h).2.2 _ (a, mkD (l ++ [(k, .list (as.map D.addr))])) hx⟩ }
  exact hr K' s E g
end
end Mine
namespace Mine
/-! ## parse_xinfo_stream, full -/
section
variable {prog : Program} {w : World} {c : Cx} {α : Anc} {R : Flow → Shared → Prop} {B : Heap} {KB : KM}
abbrev Es := List (List UInt8 × List (Key × D))
def toldE (p : List UInt8 × List (Key × D)) : D := .list [.bytes p.1, .list (flatP p.2)]
def foundE (es : Es) : D := mkD (dfold (fun p => Key.b p.1) (fun p => mkD (puts p.2 [])) es)
def info3 (L E G : D) : List (Key × D) := [(.s "length", L), (.s "entries", E), (.s "groups", G)]
def elseB7 : List Stmt := match (bodyAt 7).tail with | .If _ _ b _ :: _ => b | _ => []
set_option maxHeartbeats 8000000 in
theorem full_head {A : Around} {n : Nat} (hA : Fit A (n + 2)) {a L : Addr} {q : Str} {code : Value} {L0 G d : D} {es : Es} (hes : ∀ p ∈ es, 2 * p.2.length ≤ lim) {ad : Addr} {l : List (Key × D)} (hl : mkD l = mkD (info3 L0 (.list (es.map toldE)) G))
    (hr : Runs prog w ⟨A.deeper (fenv 7 L a q code), fenv 7 L a q code, [], [("data", ad, mkD (info3 L0 (foundE es) G))], B, KB⟩ α [elseB7.drop 1, (bodyAt 7).drop 2] R) :
    Runs prog w ⟨A.deeper (fenv 7 L a q code), fenv 7 L a q code, [("options", mkD [(.s "full", .bool true)]), ("response", d)], [("data", ad, mkD l)], B, KB⟩ α [(bodyAt 7).tail] R := by
  have hA1 : Fit (A.deeper (fenv 7 L a q code)) (n + 1) := hA.deeper
  refine r_less (ρ' := [("options", mkD [(.s "full", .bool true)])]) (O' := [("data", ad, mkD (info3 L0 (.list (es.map toldE)) G))]) ?_ (.cons rfl .nil) (.own rfl hl.symm .nil)
  refine r_false (evT_not (b := true) (evT_bool (ev_get2 (.of (ev_name rfl) rfl) ev_str ev_bool (by rfl)))) ?_
  refine r_setD (k := .s "entries") (l := info3 L0 (.list (es.map toldE)) G) (.ofN (e_dcomp (xs := es) (φ := toldE) (p := fun _ => true) (kf := fun p => Key.b p.1) (vf := fun p => mkD (puts p.2 [])) (β := fun p => [("_id", .bytes p.1), ("entry", .list (flatP p.2))]) [] (evIt_list (ev_subD (k := "entries") (evr_own rfl) ev_str (by kernel_rfl))) ⟨rfl, rfl, rfl, rfl⟩ .nil
    (fun d hd C => puts_list hA1.hand (putsL_cons rfl rfl (putsL_cons rfl rfl putsL_nil rfl) rfl) rfl rfl) (fun d hd => rfl) (fun d hd C => evF_nil) (fun d hd _ C => ⟨ev_name rfl, ev_ptd hA1 (ev_name rfl) (hes d hd)⟩))) ev_str ?_ (Nat.le_trans (put_len _ _ _) (lim16 (n := 4)))
  exact r_less hr .nil (.own rfl (by rw [filt_all]; kernel_rfl) .nil)
end
end Mine
namespace Mine
section
variable {prog : Program} {w : World} {c : Cx} {α : Anc} {R : Flow → Shared → Prop} {B : Heap} {KB : KM}
theorem ev_len {p pos : Pos} {e : Expr} {ds : List D} (h : EvR prog w c e (.list ds)) (hk : c.env.kindOf "len" = some .globalImplicit := by rfl) (he : starEach [e] c.env = (false, eval e c.env) :: starEach [] c.env := by rfl) : Ev prog w c (.Call (.Name "len" p) [e] [] pos) (.int ds.length) := fun K s Q E ok q => by
  refine wpAny_Call_Name_kw (load_bi ok (f := "len") (v := .builtin "len") (by simp [biTab]) hk (by decide) p ?_)
  have h1 : wpAny (model prog w) c.A (spliced (backTo pos (starEach [e] c.env))) (fun vs s1 => wpAny (model prog w) c.A (call (.builtin "len") vs) Q E s1) E s := by
    rw [he]
    refine spliced_cons (h K s _ E ok fun K1 a s1 n1 t1 => spliced_nil ?_)
    cases t1 with
    | @list o vs n _ h1 h2 h3 h4 h5 h6 =>
      have hl := h4.length
      have hs : (vs.toArray.size : Int) = ds.length := by rw [List.size_toArray, hl]
      refine call_len_list ⟨o, h1, h2, n, h3⟩ (by rw [hs]; have : lim = 4096 := rfl; omega) ?_
      rw [hs]
      exact q K1 _ _ (n1.trans (.toks n1.inH _)) (.int _ _)
  rw [he] at h1 ⊢
  exact callWith_builtin rfl (evalArgs_plain h1)
end
end Mine
namespace Mine
section
variable {prog : Program} {w : World} {c : Cx} {α : Anc} {R : Flow → Shared → Prop} {B : Heap} {KB : KM}
set_option maxHeartbeats 8000000 in
theorem full_none {A : Around} {n : Nat} {a L : Addr} {q : Str} {code : Value} (hA1 : Fit (A.deeper (fenv 7 L a q code)) (n + 1)) {L0 E : D} {ad : Addr} (had : ad ∉ α.W)
    (fin : ∀ K' v s', Stp α.W α.K α.s K' s' → Rep prog w K' v (mkD (info3 L0 E (.list []))) → R (.ret v) s') :
    Runs prog w ⟨A.deeper (fenv 7 L a q code), fenv 7 L a q code, [], [("data", ad, mkD (info3 L0 E (.list [])))], B, KB⟩ α [elseB7.drop 1, (bodyAt 7).drop 2] R := by
  refine r_false (evT_bools (evA_and_false (evT_cmp (ev_len (ds := []) (.of (ev_subD (k := "groups") (evr_own rfl) ev_str (by kernel_rfl)) rfl)) ev_int evC_gtInt))) ?_
  refine r_setD (k := .s "groups") (l := info3 L0 E (.list [])) (.ofN (e_comp (xs := ([] : List D)) (φ := fun d => d) (p := fun _ => true) (g := fun d => d) (β := fun d => [("group", d)]) [] (evIt_list (ev_subD (k := "groups") (evr_own rfl) ev_str (by kernel_rfl))) ⟨rfl, rfl, rfl, rfl⟩ .nil
    (fun d hd C => nomatch hd) (fun d hd => nomatch hd) (fun d hd C => nomatch hd) (fun d hd _ C => nomatch hd))) ev_str ?_ (Nat.le_trans (put_len _ _ _) (lim16 (n := 4)))
  refine runs_pop (runs_pop ?_)
  refine r_less (O' := [("data", ad, mkD (info3 L0 E (.list [])))]) ?_ .nil (.own rfl (by kernel_rfl) .nil)
  refine r_seal "data" (O' := []) ?_ had .nil
  exact r_ret (ev_name rfl) fin
end
end Mine
namespace Mine
section
variable {prog : Program} {w : World} {c : Cx} {α : Anc} {R : Flow → Shared → Prop} {B : Heap} {KB : KM}
/-! ## groups -/
/-- a group: its name, what is pending, how many readers, of how many facts -/
abbrev Grp := List UInt8 × Int × Nat × Nat
def rdL : List (List UInt8 × Str × D) := [(bName, "name", .bytes [111, 110, 101]), (bIdle, "idle", .int 4), (bInactive, "inactive", .none), (bPending, "pending", .list [])]
theorem rdL_dec : ∀ p ∈ rdL, Dec p.1 p.2.1 := fun p hp => by
  unfold rdL at hp
  rcases List.mem_cons.mp hp with rfl | hp
  · exact dec_name
  rcases List.mem_cons.mp hp with rfl | hp
  · exact dec_idle
  rcases List.mem_cons.mp hp with rfl | hp
  · exact dec_inactive
  rcases List.mem_cons.mp hp with rfl | hp
  · exact dec_pending
  cases hp
def rdFlat (m : Nat) : List D := (rdL.take m).flatMap fun p => [.bytes p.1, p.2.2]
def rdF (m : Nat) : D := mkD ((rdL.take m).map fun p => (.s p.2.1, p.2.2))
theorem rd_keys : ∀ m, m ≤ 4 → pickD (rdFlat m) none none (some 2) = (rdL.take m).map fun p => .bytes p.1
  | 0, _ => by kernel_rfl
  | 1, _ => by kernel_rfl
  | 2, _ => by kernel_rfl
  | 3, _ => by kernel_rfl
  | 4, _ => by kernel_rfl
  | n + 5, h => by omega
theorem rd_vals : ∀ m, m ≤ 4 → pickD (rdFlat m) (some 1) none (some 2) = (rdL.take m).map fun p => p.2.2
  | 0, _ => by kernel_rfl
  | 1, _ => by kernel_rfl
  | 2, _ => by kernel_rfl
  | 3, _ => by kernel_rfl
  | 4, _ => by kernel_rfl
  | n + 5, h => by omega
theorem rd_found : ∀ m, m ≤ 4 → mkD (puts ((rdL.take m).map fun p => (.s p.2.1, p.2.2)) []) = rdF m
  | 0, _ => by kernel_rfl
  | 1, _ => by kernel_rfl
  | 2, _ => by kernel_rfl
  | 3, _ => by kernel_rfl
  | 4, _ => by kernel_rfl
  | n + 5, h => by omega
def grp3 (a b d : D) : List (Key × D) := [(.s "name", a), (.s "pel-count", b), (.s "consumers", d)]
def grpL (a b d : D) : List (List UInt8 × Str × D) := [(bName, "name", a), (bPel, "pel-count", b), (bConsumers, "consumers", d)]
theorem grpL_dec (a b d : D) : ∀ p ∈ grpL a b d, Dec p.1 p.2.1 := fun p hp => by
  unfold grpL at hp
  rcases List.mem_cons.mp hp with rfl | hp
  · exact dec_name
  rcases List.mem_cons.mp hp with rfl | hp
  · exact dec_pel
  rcases List.mem_cons.mp hp with rfl | hp
  · exact dec_consumers
  cases hp
def flat3 (a b d : D) : List D := [.bytes bName, a, .bytes bPel, b, .bytes bConsumers, d]
def rdsT (g : Grp) : D := .list (List.replicate g.2.2.1 (.list (rdFlat g.2.2.2)))
def rdsF (g : Grp) : D := .list (List.replicate g.2.2.1 (rdF g.2.2.2))
def grpT (g : Grp) : D := .list (flat3 (.bytes g.1) (.int g.2.1) (rdsT g))
def grpO (g : Grp) : D := mkD (grp3 (.bytes g.1) (.int g.2.1) (rdsT g))
def grpF (g : Grp) : D := mkD (grp3 (.bytes g.1) (.int g.2.1) (rdsF g))
def tabT (g : Grp) : D := .dict [.b bName, .b bPel, .b bConsumers] [.bytes g.1, .int g.2.1, .list []]
def tabF (g : Grp) : D := mkD (grp3 (.bytes g.1) (.int g.2.1) (.list []))
set_option maxHeartbeats 8000000 in
theorem full_tabs {A : Around} {n : Nat} {a L : Addr} {q : Str} {code : Value} (hA1 : Fit (A.deeper (fenv 7 L a q code)) (n + 1)) {L0 E : D} {ad : Addr} (had : ad ∉ α.W) {g0 : Grp} {gs : List Grp}
    (fin : ∀ K' v s', Stp α.W α.K α.s K' s' → Rep prog w K' v (mkD (info3 L0 E (.list ((g0 :: gs).map tabF)))) → R (.ret v) s') :
    Runs prog w ⟨A.deeper (fenv 7 L a q code), fenv 7 L a q code, [], [("data", ad, mkD (info3 L0 E (.list ((g0 :: gs).map tabT))))], B, KB⟩ α [elseB7.drop 1, (bodyAt 7).drop 2] R := by
  refine r_false (evT_bools (evA_and_true ((evT_cmp (ev_len (ds := (g0 :: gs).map tabT) (.of (ev_subD (k := "groups") (evr_own rfl) ev_str (by kernel_rfl)) rfl)) ev_int evC_gtInt).eq (by simp))
    (evA_and_false (evT_bool (ev_isiR (T := "list") (d := tabT g0) (.of (ev_subL (.of (ev_subD (k := "groups") (x := .list ((g0 :: gs).map tabT)) (evr_own rfl) ev_str (by kernel_rfl)) rfl) ev_int (j := 0) (index_ok (by decide) (by simp)) rfl) rfl) (by simp [biTab]) isi_dict_list))))) ?_
  refine r_setD (k := .s "groups") (l := info3 L0 E (.list ((g0 :: gs).map tabT))) (.ofN (e_comp (xs := g0 :: gs) (φ := tabT) (p := fun _ => true) (g := tabF) (β := fun g => [("group", tabT g)]) [] (evIt_list (ev_subD (k := "groups") (evr_own rfl) ev_str (by kernel_rfl))) ⟨rfl, rfl, rfl, rfl⟩ .nil
    (fun d hd C => puts_name rfl rfl) (fun d hd => rfl) (fun d hd C => evF_nil)
    (fun g hg _ C => .ofN ((e_dcomp (xs := grpL (.bytes g.1) (.int g.2.1) (.list [])) (φ := fun p => D.tuple [.bytes p.1, p.2.2]) (p := fun _ => true) (kf := fun p => .s p.2.1) (vf := fun p => p.2.2) (β := fun p => [("k", .bytes p.1), ("v", p.2.2)]) [] ((evIt_items (ev_name (d := tabT g) rfl)).eq rfl) ⟨rfl, rfl, rfl, rfl⟩ .nil
      (fun d hd C => puts_tuple hA1.hand (putsL_cons rfl rfl (putsL_cons rfl rfl putsL_nil rfl) rfl) rfl rfl) (fun d hd => rfl) (fun d hd C => evF_nil) (fun d hd _ C => ⟨ev_call (f := "str_if_bytes") (i := 1) (by simp [fnTab]) (evArgs_plain (evL_cons (ev_name rfl) evL_nil) (one_arg rfl)) (spec_sib hA1 (grpL_dec _ _ _ d hd)), ev_name rfl⟩)).eq (by kernel_rfl))))) ev_str ?_ (Nat.le_trans (put_len _ _ _) (lim16 (n := 4)))
  refine runs_pop (runs_pop ?_)
  refine r_less (O' := [("data", ad, mkD (info3 L0 E (.list ((g0 :: gs).map tabF))))]) ?_ .nil (.own rfl (by rw [filt_all]; kernel_rfl) .nil)
  refine r_seal "data" (O' := []) ?_ had .nil
  exact r_ret (ev_name rfl) fin
end
end Mine
namespace Mine
section
variable {prog : Program} {w : World} {c : Cx} {α : Anc} {R : Flow → Shared → Prop} {bs : List (List Stmt)} {B : Heap} {KB : KM}
theorem ro_less {ρ' : List (Str × D)} {O' : List (Str × Addr × D)} {as : List Addr} {ds : List D} (hr : RunsO prog w { c with ρ := ρ', O := O' } α as ds bs R) (hρ : Less c.ρ ρ') (hO : Less c.O O') : RunsO prog w c α as ds bs R := fun K s E f nw far =>
  hr K s E (f.less hρ.get hO.get) nw fun a ha => ⟨(far a ha).1, (far a ha).2.1, (far a ha).2.2.1, fun x p h => (far a ha).2.2.2.1 x p (hO.get x p h), (far a ha).2.2.2.2⟩
def ifB7 : List Stmt := match elseB7.drop 1 with | .If _ b _ _ :: _ => b | _ => []
def grpBody : List Stmt := match ifB7.drop 1 with | .For _ _ b _ _ :: _ => b | _ => []
structure GrpOk (g : Grp) : Prop where
  rds : g.2.2.1 ≤ 2
  fcs : g.2.2.2 ≤ 4
set_option maxHeartbeats 8000000 in
theorem full_turn {A : Around} {n : Nat} {a L : Addr} {q : Str} {code : Value} (hA1 : Fit (A.deeper (fenv 7 L a q code)) (n + 2)) {g : Grp} (hg : GrpOk g) {ag ad : Addr} {X : D} :
    Runs prog w ⟨A.deeper (fenv 7 L a q code), fenv 7 L a q code, [], [("g", ag, grpO g), ("data", ad, X)], B, KB⟩ α [grpBody] (fun f s' => f = .next ∧ ∃ K', Fr prog w ⟨A.deeper (fenv 7 L a q code), fenv 7 L a q code, [], [("g", ag, grpF g), ("data", ad, X)], B, KB⟩ α K' s') := by
  obtain ⟨wd, pc, k, m⟩ := g
  obtain ⟨hk, hm⟩ := hg
  simp only at hk hm
  cases k with
  | zero =>
    refine r_false (evT_bools (evA_and_false (evT_ref (d := .list []) (.of (ev_subD (k := "consumers") (evr_own rfl) ev_str (by kernel_rfl)) rfl) rfl))) (runs_pop ?_)
    exact r_turn .nil (.own rfl rfl (.own rfl rfl .nil))
  | succ j =>
    refine r_true (evT_bools (evA_and_true (evT_ref (d := rdsT (wd, pc, j + 1, m)) (.of (ev_subD (k := "consumers") (evr_own rfl) ev_str (by kernel_rfl)) rfl) rfl)
      (evA_and_true (evT_cmp (ev_subL (.of (ev_subD (k := "consumers") (x := rdsT (wd, pc, j + 1, m)) (evr_own rfl) ev_str (by kernel_rfl)) rfl) ev_int (j := 0) (x := .list (rdFlat m)) (index_ok (by decide) (by simp)) rfl) ev_none (evC_isNot rfl)) evA_nil_and))) ?_
    refine r_setD (k := .s "consumers") (l := grp3 (.bytes wd) (.int pc) (rdsT (wd, pc, j + 1, m))) (d := rdsF (wd, pc, j + 1, m)) (.ofN ((e_comp (xs := List.replicate (j + 1) ()) (φ := fun _ => .list (rdFlat m)) (p := fun _ => true) (g := fun _ => rdF m) (β := fun _ => [("c", .list (rdFlat m))]) [] ((evIt_list (ev_subD (k := "consumers") (x := rdsT (wd, pc, j + 1, m)) (evr_own rfl) ev_str (by kernel_rfl))).eq (by simp)) ⟨rfl, rfl, rfl, rfl⟩ .nil
      (fun d hd C => puts_name rfl rfl) (fun d hd => rfl) (fun d hd C => evF_nil)
      (fun d hd _ C => .ofN ((ev_ptdk (l := rdL.take m) hA1 (ev_name rfl) (fun p hp => rdL_dec p (List.mem_of_mem_take hp)) (rd_keys m hm) (rd_vals m hm) rfl rfl (Nat.le_trans (List.length_take_le _ _) (Nat.le_trans hm (lim16 (n := 4))))).eq (rd_found m hm)))).eq (by rw [filt_all]; simp [rdsF]))) ev_str ?_ (Nat.le_trans (put_len _ _ _) (lim16 (n := 4)))
    refine runs_pop ?_
    exact r_turn .nil (.own rfl (by kernel_rfl) (.own rfl rfl .nil))
theorem flat3_keys (a b d : D) : pickD (flat3 a b d) none none (some 2) = (grpL a b d).map fun p => .bytes p.1 := by kernel_rfl
theorem flat3_vals (a b d : D) : pickD (flat3 a b d) (some 1) none (some 2) = (grpL a b d).map fun p => p.2.2 := by kernel_rfl
theorem grp_found (a b d : D) : mkD (puts ((grpL a b d).map fun p => (.s p.2.1, p.2.2)) []) = mkD (grp3 a b d) := by kernel_rfl
set_option maxHeartbeats 8000000 in
theorem full_lists {A : Around} {n : Nat} {a L : Addr} {q : Str} {code : Value} (hA1 : Fit (A.deeper (fenv 7 L a q code)) (n + 2)) {L0 E : D} {ad : Addr} (had : ad ∉ α.W) {g0 : Grp} {gs : List Grp} (hgs : ∀ g ∈ g0 :: gs, GrpOk g) (hz : (g0 :: gs).length ≤ lim)
    (fin : ∀ K' v s', Stp α.W α.K α.s K' s' → Rep prog w K' v (mkD (info3 L0 E (.list ((g0 :: gs).map grpF)))) → R (.ret v) s') :
    Runs prog w ⟨A.deeper (fenv 7 L a q code), fenv 7 L a q code, [], [("data", ad, mkD (info3 L0 E (.list ((g0 :: gs).map grpT))))], B, KB⟩ α [elseB7.drop 1, (bodyAt 7).drop 2] R := by
  refine r_true (evT_bools (evA_and_true ((evT_cmp (ev_len (ds := (g0 :: gs).map grpT) (.of (ev_subD (k := "groups") (evr_own rfl) ev_str (by kernel_rfl)) rfl)) ev_int evC_gtInt).eq (by simp))
    (evA_and_true (evT_bool (ev_isiR (T := "list") (d := grpT g0) (.of (ev_subL (.of (ev_subD (k := "groups") (x := .list ((g0 :: gs).map grpT)) (evr_own rfl) ev_str (by kernel_rfl)) rfl) ev_int (j := 0) (index_ok (by decide) (by simp)) rfl) rfl) (by simp [biTab]) isi_list_list)) evA_nil_and))) ?_
  refine ro_setD (c := ⟨A.deeper (fenv 7 L a q code), fenv 7 L a q code, [], [("data", ad, mkD (info3 L0 E (.list ((g0 :: gs).map grpT))))], B, KB⟩) (k := .s "groups") (l := info3 L0 E (.list ((g0 :: gs).map grpT))) (ds := (g0 :: gs).map grpO)
    (evOpen_comp (c := ⟨A.deeper (fenv 7 L a q code), fenv 7 L a q code, [], [("data", ad, mkD (info3 L0 E (.list ((g0 :: gs).map grpT))))], B, KB⟩) (xs := g0 :: gs) (φ := grpT) (g := grpO) (β := fun g => [("group", grpT g)]) (ρ' := []) (evIt_list (ev_subD (k := "groups") (evr_own rfl) ev_str (by kernel_rfl))) ⟨rfl, rfl, rfl, rfl⟩ .nil
      (fun g hg C => puts_name rfl rfl) (fun d hd => rfl) (fun g hg C => (ev_ptdk (l := grpL (.bytes g.1) (.int g.2.1) (rdsT g)) hA1 (ev_name (d := grpT g) rfl) (grpL_dec _ _ _) (flat3_keys _ _ _) (flat3_vals _ _ _) rfl rfl (lim16 (n := 3))).eq (grp_found _ _ _)) hz) ev_str (fun as => ?_) rfl (fun d => Nat.le_trans (put_len _ _ _) (lim16 (n := 4)))
  refine ro_less (ρ' := []) (O' := [("data", ad, mkD (info3 L0 E (.list (as.map D.addr))))]) ?_ .nil (.own rfl (by kernel_rfl) .nil)
  refine ro_for (x := "g") (ds' := (g0 :: gs).map grpF) (evIt_list (ev_subD (k := "groups") (evr_own rfl) ev_str (by kernel_rfl))) (fun a => puts_name rfl rfl) rfl rfl (by simp) (fun i ag d d' α' hd hd' => ?_) ?_
  · rw [List.getElem?_map] at hd hd'
    obtain ⟨g, h1, rfl⟩ := Option.map_eq_some_iff.mp hd
    obtain ⟨g', h2, rfl⟩ := Option.map_eq_some_iff.mp hd'
    rw [h1] at h2
    cases h2
    exact full_turn hA1 (hgs g (List.mem_of_getElem? h1))
  refine ro_end (x := "data") (l := [(.s "length", L0), (.s "entries", E)]) (k := .s "groups") ?_ (lim16 (n := 3)) rfl
  refine runs_pop (runs_pop ?_)
  refine r_seal "data" (O' := []) ?_ had .nil
  exact r_ret (ev_name rfl) fin
end
end Mine
namespace Mine
section
variable {prog : Program} {w : World} {c : Cx} {α : Anc} {R : Flow → Shared → Prop} {B : Heap} {KB : KM}
/-! ## parse_xinfo_stream, full: whole -/
def told3 (L E G : D) : List D := [.bytes bLength, L, .bytes bEntries, E, .bytes bGroups, G]
def tkeys3 : List Key := [.b bLength, .b bEntries, .b bGroups]
def infoL3 (L E G : D) : List (List UInt8 × Str × D) := [(bLength, "length", L), (bEntries, "entries", E), (bGroups, "groups", G)]
theorem infoL3_dec (L E G : D) : ∀ p ∈ infoL3 L E G, Dec p.1 p.2.1 := fun p hp => by
  unfold infoL3 at hp
  rcases List.mem_cons.mp hp with rfl | hp
  · exact dec_length
  rcases List.mem_cons.mp hp with rfl | hp
  · exact dec_entries
  rcases List.mem_cons.mp hp with rfl | hp
  · exact dec_groups
  cases hp
set_option maxHeartbeats 8000000 in
theorem spec_full {A : Around} {n : Nat} (hA : Fit A (n + 3)) {L0 : D} {es : Es} (hes : ∀ p ∈ es, 2 * p.2.length ≤ lim) {gs : List Grp} (hgs : ∀ g ∈ gs, GrpOk g) (hz : gs.length ≤ lim) :
    Spec prog w A 7 [.list (told3 L0 (.list (es.map toldE)) (.list (gs.map grpT)))] [("full", .bool true)] (mkD (info3 L0 (foundE es) (.list (gs.map grpF)))) := by
  intro B KB a ob fd K s vs kvs R hB hKB h1 h2 h3 h4 hK hvs hkw q
  obtain ⟨v, rfl, rv⟩ := all_one hvs
  obtain ⟨u, rfl, ru⟩ := kw_one hkw
  refine enter_k (Fit.here hA) hA.hand hB hKB h1 h2 h3 h4 hK rv ru (fun E Q hq => bind_k7_0 h3 hq) fun L qn code => ?_
  have hA1 : Fit (A.deeper (fenv 7 L a qn code)) (n + 2) := hA.deeper
  refine r_true (evT_bool (ev_isiR (T := "list") (.of (ev_name (d := .list (told3 L0 (.list (es.map toldE)) (.list (gs.map grpT)))) rfl) rfl) (by simp [biTab]) isi_list_list)) ?_
  refine r_own (ev_ptdk (ds := told3 L0 (.list (es.map toldE)) (.list (gs.map grpT))) (l := infoL3 L0 (.list (es.map toldE)) (.list (gs.map grpT))) hA1 (ev_name rfl) (infoL3_dec _ _ _) (by kernel_rfl) (by kernel_rfl) rfl rfl (lim16 (n := 3))) (fun ad had => runs_pop ?_)
  refine full_head (n := n + 1) (L0 := L0) (G := .list (gs.map grpT)) hA hes (by kernel_rfl) ?_
  cases gs with
  | nil => exact full_none (n := n + 1) hA1 had fun K' v s' st r => q K' v s' (st.toNext fun b hb => nomatch hb) r
  | cons g0 gs => exact full_lists (n := n) hA1 had hgs hz fun K' v s' st r => q K' v s' (st.toNext fun b hb => nomatch hb) r
set_option maxHeartbeats 8000000 in
theorem spec_fullT {A : Around} {n : Nat} (hA : Fit A (n + 3)) {L0 : D} {es : Es} (hes : ∀ p ∈ es, 2 * p.2.length ≤ lim) {gs : List Grp} :
    Spec prog w A 7 [.dict tkeys3 [L0, .list (es.map toldE), .list (gs.map tabT)]] [("full", .bool true)] (mkD (info3 L0 (foundE es) (.list (gs.map tabF)))) := by
  intro B KB a ob fd K s vs kvs R hB hKB h1 h2 h3 h4 hK hvs hkw q
  obtain ⟨v, rfl, rv⟩ := all_one hvs
  obtain ⟨u, rfl, ru⟩ := kw_one hkw
  refine enter_k (Fit.here hA) hA.hand hB hKB h1 h2 h3 h4 hK rv ru (fun E Q hq => bind_k7_0 h3 hq) fun L qn code => ?_
  have hA1 : Fit (A.deeper (fenv 7 L a qn code)) (n + 2) := hA.deeper
  refine r_false (evT_bool (ev_isiR (T := "list") (.of (ev_name (d := .dict tkeys3 [L0, .list (es.map toldE), .list (gs.map tabT)]) rfl) rfl) (by simp [biTab]) isi_dict_list)) ?_
  refine r_dcomp (xs := infoL3 L0 (.list (es.map toldE)) (.list (gs.map tabT))) (φ := fun p => D.tuple [.bytes p.1, p.2.2]) (p := fun _ => true) (kf := fun p => .s p.2.1) (vf := fun p => p.2.2) (β := fun p => [("k", .bytes p.1), ("v", p.2.2)]) [] ((evIt_items (ev_name (d := .dict tkeys3 [L0, .list (es.map toldE), .list (gs.map tabT)]) rfl)).eq rfl) ⟨rfl, rfl, rfl, rfl⟩ .nil
    (fun d hd C => puts_tuple hA1.hand (putsL_cons rfl rfl (putsL_cons rfl rfl putsL_nil rfl) rfl) rfl rfl) (fun d hd => rfl) (fun d hd C => evF_nil) (fun d hd _ C => ⟨ev_call (f := "str_if_bytes") (i := 1) (by simp [fnTab]) (evArgs_plain (evL_cons (ev_name rfl) evL_nil) (one_arg rfl)) (spec_sib hA1 (infoL3_dec _ _ _ d hd)), ev_name rfl⟩) (fun ad had => runs_pop ?_)
  refine full_head (n := n + 1) (L0 := L0) (G := .list (gs.map tabT)) hA hes (by kernel_rfl) ?_
  cases gs with
  | nil => exact full_none (n := n + 1) hA1 had fun K' v s' st r => q K' v s' (st.toNext fun b hb => nomatch hb) r
  | cons g0 gs => exact full_tabs (n := n + 1) hA1 had fun K' v s' st r => q K' v s' (st.toNext fun b hb => nomatch hb) r
end
end Mine
namespace Mine
/-! ## slices of lists, plainly -/
theorem pick_run (ds : List D) (a : Nat) : ∀ m : Nat, ((List.range m).map (a + ·)).filterMap (ds[·]?) = (ds.drop a).take m
  | 0 => by simp
  | m + 1 => by
    rw [List.range_succ, List.map_append, List.filterMap_append, pick_run ds a m, List.take_add_one, List.getElem?_drop]
    cases h : ds[a + m]? <;> simp [h]
theorem pickD_from (ds : List D) (a : Nat) : pickD ds (some (a : Int)) none none = ds.drop a := by
  unfold pickD
  rw [sliceBounds_plain]
  simp only [Option.elim]
  rw [sliceRange_one, pick_run]
  have : clipAt ds.length (a : Int) = min a ds.length := by unfold clipAt; split <;> omega
  rw [this]
  by_cases h : a ≤ ds.length
  · rw [Nat.min_eq_left h, List.take_of_length_le (by rw [List.length_drop]; omega)]
  · rw [Nat.min_eq_right (by omega), List.drop_of_length_le (Nat.le_refl _), List.drop_of_length_le (by omega)]; simp
theorem pickD_upto (ds : List D) (b : Nat) : pickD ds none (some (b : Int)) none = ds.take b := by
  unfold pickD
  rw [sliceBounds_plain]
  simp only [Option.elim]
  rw [show ((0 : Nat) : Int) = ((0 : Nat) : Int) from rfl, sliceRange_one, pick_run]
  have : clipAt ds.length (b : Int) = min b ds.length := by unfold clipAt; split <;> omega
  rw [this, Nat.sub_zero, List.drop_zero]
  by_cases h : b ≤ ds.length
  · rw [Nat.min_eq_left h]
  · rw [Nat.min_eq_right (by omega), List.take_of_length_le (Nat.le_refl _), List.take_of_length_le (by omega)]
theorem pickD_run (ds : List D) (a b : Nat) : pickD ds (some (a : Int)) (some (b : Int)) none = (ds.drop a).take (b - a) := by
  unfold pickD
  rw [sliceBounds_plain]
  simp only [Option.elim]
  rw [sliceRange_one, pick_run]
  have e1 : clipAt ds.length (a : Int) = min a ds.length := by unfold clipAt; split <;> omega
  have e2 : clipAt ds.length (b : Int) = min b ds.length := by unfold clipAt; split <;> omega
  rw [e1, e2]
  by_cases h : a ≤ ds.length
  · rw [Nat.min_eq_left h]
    by_cases h' : b ≤ ds.length
    · rw [Nat.min_eq_left h']
    · rw [Nat.min_eq_right (by omega), List.take_of_length_le (by rw [List.length_drop]; omega), List.take_of_length_le (by rw [List.length_drop]; omega)]
  · rw [show min a ds.length = ds.length by omega, List.drop_of_length_le (Nat.le_refl _), List.drop_of_length_le (by omega)]; simp
end Mine
namespace Mine
section
variable {prog : Program} {w : World} {c : Cx} {α : Anc} {R : Flow → Shared → Prop} {A : Around} {B : Heap} {KB : KM} {L a : Addr} {q : Str} {code : Value}
/-! ## the law, first part: what is told and what is to be seen -/
def numsD (nums : List Int) : D := .list (nums.map .int)
def cntAt (n0 : Int) (k : Nat) : Nat := ((n0.fdiv (4 ^ k)).fmod 4).toNat
def yAt (nums : List Int) (n0 : Int) (k : Nat) : List Int := (nums.drop (1 + 3 * k)).take (cntAt n0 k)
def clOf (n0 : Int) : Bool := (n0.fdiv 16).fmod 2 == 1
def base1 (nums : List Int) (n0 : Int) : List (Str × D) := [("claimed", .bool (clOf n0)), ("numbers", numsD nums), ("options", optM (clOf n0))]
theorem two_args {e f : Expr} {env : Env} (h : starEach [e, f] env = (false, eval e env) :: starEach [f] env) : noLone env [e, f] := fun pos => .inl ⟨_, _, by rw [h]; rfl⟩
theorem nums_from (nums : List Int) (k : Nat) : pickD (nums.map D.int) (some (1 + 3 * (k : Int))) none none = (nums.drop (1 + 3 * k)).map .int := by
  have e : (1 + 3 * (k : Int)) = ((1 + 3 * k : Nat) : Int) := by omega
  rw [e, pickD_from, List.map_drop]
theorem nums_upto (nums : List Int) {b : Int} (h : 0 ≤ b) : pickD (nums.map D.int) none (some b) none = (nums.take b.toNat).map .int := by
  obtain ⟨n, rfl⟩ := Int.eq_ofNat_of_zero_le h
  rw [pickD_upto, List.map_take]; rfl
theorem fmod4 (z : Int) : 0 ≤ z.fmod 4 ∧ z.fmod 4 < 4 := ⟨Int.fmod_nonneg_of_pos _ (by decide), Int.fmod_lt_of_pos _ (by decide)⟩
/-- a name is given a comprehension's list; the list is not changed any more -/
theorem r_compS {bs : List (List Stmt)} {rest : List Stmt} {env : Env} {ρ : List (Str × D)} {O : List (Str × Addr × D)} {elt tgt iter : Expr} {ifs : List Expr} {scope : Scope} {cpos : Pos} {T : Type} {xs : List T} {φ : T → D} {p : T → Bool} {g : T → D} {β : T → List (Str × D)} {x : Str} {px pos : Pos} (ρ' : List (Str × D)) (d : D)
    (hit : EvIt prog w ⟨A, env, ρ, O, B, KB⟩ tgt iter (xs.map φ)) (hc : CompOk ⟨A, env, ρ, O, B, KB⟩ scope) (hρ' : Passes env scope ρ ρ')
    (hput : ∀ d ∈ xs, ∀ C, Puts prog w A (compEnvC scope (gath env scope.names []) C env) tgt (φ d) (β d)) (hβ : ∀ d ∈ xs, locals? scope (β d) = true)
    (htest : ∀ d ∈ xs, ∀ C, EvF prog w ⟨A, compEnvC scope (gath env scope.names []) C env, β d ++ ρ', [], B, KB⟩ ifs (p d)) (helt : ∀ d ∈ xs, p d = true → ∀ C, Ev prog w ⟨A, compEnvC scope (gath env scope.names []) C env, β d ++ ρ', [], B, KB⟩ elt (g d))
    (hd : .list ((xs.filter p).map g) = d) (hO : ∀ a, But x ((x, a, d) :: O) O) (hr : Runs prog w ⟨A, env, (x, d) :: ρ, O, B, KB⟩ α (rest :: bs) R)
    (hs : swapsWith (.ListComp elt [⟨tgt, iter, ifs, 0⟩] scope cpos) (some (.Name x px)) pos.line env = pure true := by rfl) (hx : slot env x = true := by rfl) (hρ : ρ.lookup x = none := by rfl)
    (hf : ∀ x, foldedSetIterable iter env x = pure x := by intro _; rfl) : Runs prog w ⟨A, env, ρ, O, B, KB⟩ α ((.Assign [.Name x px] (.ListComp elt [⟨tgt, iter, ifs, 0⟩] scope cpos) pos :: rest) :: bs) R := by
  subst hd
  exact r_comp ρ' hit hc hρ' hput hβ htest helt (fun a ha => r_seal x hr ha (hO a) (by rw [lookup_two, if_pos rfl])) hs hx hρ hf
theorem r_dcompS {bs : List (List Stmt)} {rest : List Stmt} {env : Env} {ρ : List (Str × D)} {O : List (Str × Addr × D)} {kx vx tgt iter : Expr} {ifs : List Expr} {scope : Scope} {cpos : Pos} {T : Type} {xs : List T} {φ : T → D} {p : T → Bool} {kf : T → Key} {vf : T → D} {β : T → List (Str × D)} {x : Str} {px pos : Pos} (ρ' : List (Str × D)) (d : D)
    (hit : EvIt prog w ⟨A, env, ρ, O, B, KB⟩ tgt iter (xs.map φ)) (hc : CompOk ⟨A, env, ρ, O, B, KB⟩ scope) (hρ' : Passes env scope ρ ρ')
    (hput : ∀ d ∈ xs, ∀ C, Puts prog w A (compEnvC scope (gath env scope.names []) C env) tgt (φ d) (β d)) (hβ : ∀ d ∈ xs, locals? scope (β d) = true)
    (htest : ∀ d ∈ xs, ∀ C, EvF prog w ⟨A, compEnvC scope (gath env scope.names []) C env, β d ++ ρ', [], B, KB⟩ ifs (p d)) (helt : ∀ d ∈ xs, p d = true → ∀ C, Ev prog w ⟨A, compEnvC scope (gath env scope.names []) C env, β d ++ ρ', [], B, KB⟩ kx (keyD (kf d)) ∧ Ev prog w ⟨A, compEnvC scope (gath env scope.names []) C env, β d ++ ρ', [], B, KB⟩ vx (vf d))
    (hd : mkD (dfold kf vf (xs.filter p)) = d) (hO : ∀ a, But x ((x, a, d) :: O) O) (hr : Runs prog w ⟨A, env, (x, d) :: ρ, O, B, KB⟩ α (rest :: bs) R)
    (hs : swapsWith (.DictComp kx vx [⟨tgt, iter, ifs, 0⟩] scope cpos) (some (.Name x px)) pos.line env = pure true := by rfl) (hx : slot env x = true := by rfl) (hρ : ρ.lookup x = none := by rfl)
    (hf : ∀ x, foldedSetIterable iter env x = pure x := by intro _; rfl) : Runs prog w ⟨A, env, ρ, O, B, KB⟩ α ((.Assign [.Name x px] (.DictComp kx vx [⟨tgt, iter, ifs, 0⟩] scope cpos) pos :: rest) :: bs) R := by
  subst hd
  exact r_dcomp ρ' hit hc hρ' hput hβ htest helt (fun a ha => r_seal x hr ha (hO a) (by rw [lookup_two, if_pos rfl])) hs hx hρ hf
def forBody (k : Nat) : List Stmt := match (bodyAt 20).drop k with | .For _ _ b _ _ :: _ => b | _ => []
set_option maxHeartbeats 8000000 in
theorem law_turn {nums : List Int} {n0 : Int} (h0 : nums[0]? = some n0) (hl : nums.length ≤ 9) (hA : Fit A 4) {i : Nat} (hi : i < 2) {at_ as_ : Addr} :
    Runs prog w ⟨A, fenv 20 L a q code, ("k", D.int i) :: base1 nums n0, [("told", at_, .list ((List.range i).map fun k => tolds (clOf n0) (yAt nums n0 k))), ("seen", as_, .list ((List.range i).map fun k => seens (clOf n0) (yAt nums n0 k)))], B, KB⟩ α [forBody 5]
      (fun f s' => f = .next ∧ ∃ K', Fr prog w ⟨A, fenv 20 L a q code, base1 nums n0, [("told", at_, .list ((List.range (i + 1)).map fun k => tolds (clOf n0) (yAt nums n0 k))), ("seen", as_, .list ((List.range (i + 1)).map fun k => seens (clOf n0) (yAt nums n0 k)))], B, KB⟩ α K' s') := by
  have hlen : 0 < nums.length := (List.getElem?_eq_some_iff.mp h0).1
  have hA1 : Fit A 1 := hA.le (by decide)
  have hp : (4 ^ i : Int) = 1 ∨ (4 ^ i : Int) = 4 := by
    have : i = 0 ∨ i = 1 := by omega
    rcases this with rfl | rfl <;> simp
  refine r_compS (xs := yAt nums n0 i) (φ := D.int) (p := fun _ => true) (g := (entryD · (clOf n0))) (β := fun x => [("x", .int x)]) [("claimed", .bool (clOf n0))] (.list ((yAt nums n0 i).map (entryD · (clOf n0))))
    ((evIt_list (.ofN (evn_slice (.ofN (evn_slice (.of (ev_name (d := numsD nums) rfl) rfl) (evP_some (ev_add ev_int (ev_mul ev_int (ev_name rfl) (.of_left (by decide +kernel))))) evP_none evP_none (by simp)))
      evP_none (evP_some (ev_mod (ev_div (ev_subL (.of (ev_name (d := numsD nums) rfl) rfl) ev_int (j := 0) (x := .int n0) (index_ok (by decide) (by simp; omega)) (by simp [h0]))
        (ev_pow (n := (i : Int)) ev_int (ev_name rfl) (by omega) (by rw [show Builtin.Int.intBits 4 = 3 by decide +kernel]; omega)) (b := 4 ^ i) (by rcases hp with h | h <;> rw [h] <;> decide) (PyProof.noPylong_small (by rcases hp with h | h <;> rw [h] <;> decide))) ev_int (by decide))) evP_none (by simp)))).eq (by rw [nums_from, nums_upto _ (fmod4 _).1]; rfl)) ⟨rfl, rfl, rfl, rfl⟩ (.cons rfl rfl .nil)
    (fun d hd C => puts_name rfl rfl) (fun d hd => rfl) (fun d hd C => evF_nil) (fun d hd _ C => ev_call (f := "_law_entry") (i := 19) (by simp [fnTab]) (evArgs_plain (evL_cons (ev_name rfl) (evL_cons (ev_name rfl) evL_nil)) (two_args rfl)) (spec_entry hA1 d (clOf n0))) (by rw [filt_all]) (fun a => .cons rfl rfl (.cons rfl rfl .nil)) ?_
  have hz : (yAt nums n0 i).length ≤ 9 := by unfold yAt; rw [List.length_take, List.length_drop]; omega
  refine r_append (ds := (List.range i).map fun k => tolds (clOf n0) (yAt nums n0 k)) (d := tolds (clOf n0) (yAt nums n0 i)) (.ofN ((e_comp (xs := yAt nums n0 i) (φ := (entryD · (clOf n0))) (p := fun _ => true) (g := (toldOf · (clOf n0))) (β := fun x => [("pair", entryD x (clOf n0))]) [] (evIt_list (ev_name rfl)) ⟨rfl, rfl, rfl, rfl⟩ .nil
    (fun d hd C => puts_name rfl rfl) (fun d hd => rfl) (fun d hd C => evF_nil) (fun d hd _ C => ev_subT (.of (ev_name (d := entryD d (clOf n0)) rfl) rfl) ev_int (j := 0) rfl rfl)).eq (by rw [filt_all]; rfl))) ?_ (by simp; exact lim16 (n := i + 1) (by omega))
  refine r_append (ds := (List.range i).map fun k => seens (clOf n0) (yAt nums n0 k)) (d := seens (clOf n0) (yAt nums n0 i)) (.ofN ((e_comp (xs := yAt nums n0 i) (φ := (entryD · (clOf n0))) (p := fun _ => true) (g := (seenOf · (clOf n0))) (β := fun x => [("pair", entryD x (clOf n0))]) [] (evIt_list (ev_name rfl)) ⟨rfl, rfl, rfl, rfl⟩ .nil
    (fun d hd C => puts_name rfl rfl) (fun d hd => rfl) (fun d hd C => evF_nil) (fun d hd _ C => ev_subT (.of (ev_name (d := entryD d (clOf n0)) rfl) rfl) ev_int (j := 1) rfl rfl)).eq (by rw [filt_all]; rfl))) ?_ (by simp; exact lim16 (n := i + 1) (by omega))
  exact r_turn (.cons rfl (.cons rfl (.cons rfl .nil))) (.own rfl (by rw [List.range_succ, List.map_append]; rfl) (.own rfl (by rw [List.range_succ, List.map_append]; rfl) .nil))
def base2 (nums : List Int) (n0 : Int) : List (Str × D) := [("seen", .list [seens (clOf n0) (yAt nums n0 0), seens (clOf n0) (yAt nums n0 1)]), ("told", .list [tolds (clOf n0) (yAt nums n0 0), tolds (clOf n0) (yAt nums n0 1)]), ("claimed", .bool (clOf n0)), ("numbers", numsD nums), ("options", optM (clOf n0))]
set_option maxHeartbeats 8000000 in
theorem law_one {xs : List Int} {n0 : Int} (hxs : xs.length ≤ 63) (h0 : ((xs ++ [0, 0]).take 9)[0]? = some n0) (hA : Fit A 4)
    (hr : Runs prog w ⟨A, fenv 20 L a q code, base2 ((xs ++ [0, 0]).take 9) n0, [], B, KB⟩ α [(bodyAt 20).drop 6] R) :
    Runs prog w ⟨A, fenv 20 L a q code, [("script", numsD xs)], [], B, KB⟩ α [bodyAt 20] R := by
  have hlim : lim = 4096 := rfl
  have hl : ((xs ++ [0, 0]).take 9).length ≤ 9 := List.length_take_le _ _
  have hlen : 0 < ((xs ++ [0, 0]).take 9).length := (List.getElem?_eq_some_iff.mp h0).1
  refine r_assign (x := "numbers") (d := numsD ((xs ++ [0, 0]).take 9)) (.ofN ((evn_slice (.of (ev_cat (ev_name (d := numsD xs) rfl) (ev_rep (a := [.int 0]) (x := 2) (.ofN (evn_list (evL_cons ev_int evL_nil) lim8)) ev_int (by decide) (by decide) (lim16 (n := 2)) (by simp)) (by simp; omega)) rfl) evP_none (evP_some ev_int) evP_none (by simp)).eq
    (congrArg D.list ((pickD_upto _ 9).trans (by rw [List.map_take, List.map_append]; rfl))))) ?_
  generalize hn : (xs ++ [0, 0]).take 9 = nums at *
  refine r_assign (x := "claimed") (d := .bool (clOf n0)) (ev_cmp (ev_mod (ev_div (ev_subL (.of (ev_name (d := numsD nums) rfl) rfl) ev_int (j := 0) (x := .int n0) (index_ok (by decide) (by simp; omega)) (by simp [h0])) ev_int (by decide) (PyProof.noPylong_small (by decide))) ev_int (by decide)) ev_int evC_eqInt) ?_
  refine r_assign (x := "options") (d := optM (clOf n0)) ?_ ?_
  · have key : ∀ b : Bool, Ev prog w ⟨A, fenv 20 L a q code, [("claimed", .bool b)], [], B, KB⟩ (match (bodyAt 20).drop 2 with | .Assign _ e _ :: _ => e | _ => .Constant .none 0 default) (optM b) := fun b => by
      cases b with
      | false => exact .ofN (evn_if_false (evT_bool (ev_name rfl)) evn_dict0)
      | true =>
        refine @ev_if_true prog w _ _ _ _ _ _ (by exact evT_bool (ev_name rfl)) ?_
        refine @ev_dictE _ _ _ _ _ _ [(.s "claim_min_idle_time", .int 10)] _ ?_ (by kernel_rfl) (by rfl) (lim16 (n := 1))
        exact evD_cons (kk := .s "claim_min_idle_time") ev_str ev_int evD_nil
    exact fun K s Q E ok qq => key (clOf n0) K s Q E ⟨ok.env, ok.mod, ok.hand, ok.kb, ok.base, ok.inH, fun x d h => ok.vars x d (Less.get (l := [("claimed", D.bool (clOf n0)), ("numbers", numsD nums), ("script", numsD xs)]) (.cons rfl .nil) x d h), fun _ _ _ h => nomatch h⟩ qq
  refine r_own (evn_list evL_nil (Nat.zero_le _)) fun ta hta => ?_
  refine r_own (evn_list evL_nil (Nat.zero_le _)) fun sa hsa => ?_
  refine r_for (fun i => base1 nums n0) (fun i => [("told", ta, .list ((List.range i).map fun k => tolds (clOf n0) (yAt nums n0 k))), ("seen", sa, .list ((List.range i).map fun k => seens (clOf n0) (yAt nums n0 k)))]) (β := fun i => [("k", .int i)])
    (evIt_range (n := 2) ev_int (by decide) (by decide)) (fun i d hd => by have := up_get hd; subst this; exact puts_name rfl rfl) (fun i => .cons rfl rfl .nil) (.cons rfl (.cons rfl (.cons rfl .nil))) (.cons rfl (.cons rfl .nil)) (fun i => .cons (.cons .nil)) (fun i d α' hd => ?_) (N := 2) rfl ?_
  · have hi : i < 2 := by
      have h1 := (List.getElem?_eq_some_iff.mp hd).1
      simpa [upD] using h1
    exact law_turn h0 hl hA hi
  refine r_seal "told" (O' := [("seen", sa, .list ((List.range 2).map fun k => seens (clOf n0) (yAt nums n0 k)))]) ?_ hta (.cons rfl rfl .nil)
  refine r_seal "seen" (O' := []) ?_ hsa .nil
  exact r_less hr (.cons rfl (.cons rfl (.cons rfl (.cons rfl (.cons rfl .nil))))) .nil
end
end Mine
namespace Mine
/-! ## data that equal themselves -/
structure Nice (d : D) (n : Nat) : Prop where
  ok : d.ok
  dep : d.depth ≤ n
inductive NiceL : List D → Nat → Prop
  | nil {n : Nat} : NiceL [] n
  | cons {d : D} {ds : List D} {n : Nat} : Nice d n → NiceL ds n → NiceL (d :: ds) n
theorem NiceL.oks : ∀ {ds : List D} {n : Nat}, NiceL ds n → D.oks ds ∧ D.depths ds ≤ n
  | _, _, .nil => by rw [D.oks, D.depths]; exact ⟨trivial, Nat.zero_le _⟩
  | _, _, .cons h t => by
    rw [D.oks, D.depths]
    have := t.oks
    have := h.dep
    exact ⟨⟨h.ok, t.oks.1⟩, by omega⟩
theorem NiceL.of : ∀ {ds : List D} {n : Nat}, (∀ d ∈ ds, Nice d n) → NiceL ds n
  | [], _, _ => .nil
  | d :: ds, _, h => .cons (h d List.mem_cons_self) (.of fun x hx => h x (List.mem_cons_of_mem _ hx))
theorem NiceL.map {T : Type} {f : T → D} {xs : List T} {n : Nat} (h : ∀ x ∈ xs, Nice (f x) n) : NiceL (xs.map f) n := .of fun d hd => by
  obtain ⟨x, hx, rfl⟩ := List.mem_map.mp hd
  exact h x hx
theorem Nice.list {ds : List D} {n : Nat} (h : NiceL ds n) : Nice (.list ds) (n + 1) := ⟨by rw [D.ok]; exact h.oks.1, by rw [D.depth]; have := h.oks.2; omega⟩
theorem Nice.tuple {ds : List D} {n : Nat} (h : NiceL ds n) : Nice (.tuple ds) (n + 1) := ⟨by rw [D.ok]; exact h.oks.1, by rw [D.depth]; have := h.oks.2; omega⟩
theorem Nice.dict {ks : List Key} {ds : List D} {n : Nat} (hk : ks.Nodup) (h : NiceL ds n) : Nice (.dict ks ds) (n + 1) := ⟨by rw [D.ok]; exact ⟨hk, h.oks.1⟩, by rw [D.depth]; have := h.oks.2; omega⟩
theorem Nice.none {n : Nat} : Nice .none n := ⟨by simp [D.ok], by simp [D.depth]⟩
theorem Nice.int {i : Int} {n : Nat} : Nice (.int i) n := ⟨by simp [D.ok], by simp [D.depth]⟩
theorem Nice.bytes {b : List UInt8} {n : Nat} : Nice (.bytes b) n := ⟨by simp [D.ok], by simp [D.depth]⟩
theorem Nice.str {b : Str} {n : Nat} : Nice (.str b) n := ⟨by simp [D.ok], by simp [D.depth]⟩
theorem Nice.mono {d : D} {n m : Nat} (h : Nice d n) (hm : n ≤ m) : Nice d m := ⟨h.ok, Nat.le_trans h.dep hm⟩
theorem Nice.mkD {l : List (Key × D)} {n : Nat} (hk : (l.map (·.1)).Nodup) (h : ∀ p ∈ l, Nice p.2 n) : Nice (mkD l) (n + 1) := .dict hk (.map h)
theorem put_nodup {l : List (Key × D)} {k : Key} {d : D} (h : (l.map (·.1)).Nodup) : ((put l k d).map (·.1)).Nodup := by
  unfold put
  split
  · rename_i hk
    rw [List.map_map]
    have : ((fun p : Key × D => p.1) ∘ fun p => if p.1 = k then (p.1, d) else p) = fun p => p.1 := by
      funext p; simp only [Function.comp]; split <;> rfl
    rw [this]; exact h
  · rename_i hk
    rw [List.map_append]
    refine List.nodup_append.mpr ⟨h, List.nodup_cons.mpr ⟨(by intro h; cases h), List.nodup_nil⟩, fun a ha b hb e => ?_⟩
    have hb' : b = k := by simpa using hb
    subst e hb'
    apply hk
    obtain ⟨p, hp, rfl⟩ := List.mem_map.mp ha
    exact List.any_eq_true.mpr ⟨p, hp, by simp⟩
theorem put_nice {l : List (Key × D)} {k : Key} {d : D} {n : Nat} (h : ∀ p ∈ l, Nice p.2 n) (hd : Nice d n) : ∀ p ∈ put l k d, Nice p.2 n := fun p hp => by
  unfold put at hp
  split at hp
  · obtain ⟨q, hq, rfl⟩ := List.mem_map.mp hp
    split
    · exact hd
    · exact h q hq
  · rcases List.mem_append.mp hp with hp | hp
    · exact h p hp
    · have : p = (k, d) := by simpa using hp
      subst this; exact hd
theorem puts_nodup : ∀ {ps l : List (Key × D)}, (l.map (·.1)).Nodup → ((puts ps l).map (·.1)).Nodup
  | [], _, h => h
  | p :: ps, l, h => puts_nodup (ps := ps) (put_nodup h)
theorem puts_nice {n : Nat} : ∀ {ps l : List (Key × D)}, (∀ p ∈ l, Nice p.2 n) → (∀ p ∈ ps, Nice p.2 n) → ∀ p ∈ puts ps l, Nice p.2 n
  | [], _, h, _ => h
  | p :: ps, l, h, h' => puts_nice (ps := ps) (put_nice h (h' p List.mem_cons_self)) fun q hq => h' q (List.mem_cons_of_mem _ hq)
theorem Nice.puts {ps : List (Key × D)} {n : Nat} (h : ∀ p ∈ ps, Nice p.2 n) : Nice (Mine.mkD (Mine.puts ps [])) (n + 1) := .mkD (puts_nodup List.nodup_nil) (puts_nice (fun _ h => nomatch h) h)
theorem dfold_puts {T : Type} {kf : T → Key} {vf : T → D} (xs : List T) : dfold kf vf xs = puts (xs.map fun x => (kf x, vf x)) [] := by
  unfold dfold puts
  rw [List.foldl_map]
theorem Nice.pairs (y : Int) (n : Nat) : Nice (Mine.mkD (fieldsOf y n)) 1 := by
  rw [fields_pairs]
  refine .puts fun p hp => ?_
  unfold pairsOf at hp
  obtain ⟨k, _, rfl⟩ := List.mem_map.mp hp
  exact .bytes
theorem Nice.seen (x : Int) (b : Bool) : Nice (seenOf x b) 2 := by
  unfold seenOf
  split
  · exact .tuple (.cons .none (.cons .none .nil))
  · cases b
    · exact .tuple (.cons .bytes (.cons (.pairs _ _) .nil))
    · exact .tuple (.cons .bytes (.cons (.pairs _ _) (.cons .int (.cons .int .nil))))
theorem Nice.seens (b : Bool) (xs : List Int) : Nice (seens b xs) 3 := .list (.map fun x _ => .seen x b)
theorem nice_keyD (k : Key) : Nice (keyD k) 0 := by cases k <;> first | exact .bytes | exact .str
section
variable {prog : Program} {w : World} {c : Cx} {α : Anc} {R : Flow → Shared → Prop} {A : Around} {B : Heap} {KB : KM} {L a : Addr} {q : Str} {code : Value}
theorem ne_same {d : D} {n : Nat} (h : Nice d n) (hr : d.isRef = true) (hu : c.A.units + n < cLine) : EvC prog w c .NotEq d d false := evC_ne (DEq.refl _ h.ok) hr (by have := h.dep; omega)
theorem ev_opts {f : Str} {i : Nat} {e : Expr} {p op kp pos : Pos} {d r : D} {o : Bool} (hf : (f, i) ∈ fnTab) (harg : Ev prog w c e d) (hopt : c.ρ.lookup ("options" : Str) = some (optM o)) (hs : Spec prog w c.A i [d] (optsD o) r)
    (hk : c.env.kindOf f = some .globalImplicit := by rfl) (hdb : (f == ("__debug__" : Str)) = false := by decide) (he : starEach [e] c.env = (false, eval e c.env) :: starEach [] c.env := by rfl) : Ev prog w c (.Call (.Name f p) [e] [⟨none, .Name "options" op, kp⟩] pos) r := by
  cases o with
  | false => exact ev_call (f := f) (i := i) hf (evArgs_star (ks := []) (es := []) (evL_cons harg evL_nil he) (one_arg he) (ev_name hopt)) hs hk hdb
  | true => exact ev_call (f := f) (i := i) hf (evArgs_star (ks := ["claim_min_idle_time"]) (es := [.int 10]) (evL_cons harg evL_nil he) (one_arg he) (ev_name hopt)) hs hk hdb
end
end Mine
namespace Mine
section
variable {prog : Program} {w : World} {c : Cx} {α : Anc} {R : Flow → Shared → Prop} {A : Around} {B : Heap} {KB : KM} {L a : Addr} {q : Str} {code : Value}
/-! ## the law, second part: streams -/
def key0 : Key := .b [115]
def key1 : Key := .b [116, 123, 115, 125]
def rw2 (y0 y1 : List Int) : List (Key × List Int) := [(key0, y0), (key1, y1)]
def two (y0 y1 : List Int) : List (Nat × Key × List Int) := [(0, key0, y0), (1, key1, y1)]
theorem two_key {y0 y1 : List Int} {p : Nat × Key × List Int} (h : p ∈ two y0 y1) : streamsD[p.1]? = some (keyD p.2.1) := by
  unfold two at h
  rcases List.mem_cons.mp h with rfl | h
  · rfl
  rcases List.mem_cons.mp h with rfl | h
  · rfl
  cases h
theorem two_get {y0 y1 : List Int} (f : List Int → D) {p : Nat × Key × List Int} (h : p ∈ two y0 y1) : ([f y0, f y1] : List D)[p.1]? = some (f p.2.2) := by
  unfold two at h
  rcases List.mem_cons.mp h with rfl | h
  · rfl
  rcases List.mem_cons.mp h with rfl | h
  · rfl
  cases h
theorem two_lt {y0 y1 : List Int} {p : Nat × Key × List Int} (h : p ∈ two y0 y1) : (p.1 : Int) < 2 := by
  unfold two at h
  rcases List.mem_cons.mp h with rfl | h
  · show (0 : Int) < 2; decide
  rcases List.mem_cons.mp h with rfl | h
  · show (1 : Int) < 2; decide
  cases h
theorem rw2_ok {y0 y1 : List Int} (h0 : y0.length ≤ lim) (h1 : y1.length ≤ lim) : RowsOk (rw2 y0 y1) where
  keys := by show [key0, key1].Nodup; decide
  some := by simp [rw2]
  lens := fun p hp => by
    unfold rw2 at hp
    rcases List.mem_cons.mp hp with rfl | hp
    · exact h0
    rcases List.mem_cons.mp hp with rfl | hp
    · exact h1
    cases hp
  len := lim16 (n := 2)
theorem Nice.tab {f : List Int → D} {n : Nat} (y0 y1 : List Int) (h : ∀ xs, Nice (f xs) n) : Nice (tabD f (rw2 y0 y1)) (n + 1) := .dict (by show [key0, key1].Nodup; decide) (.map fun p _ => h _)
theorem Nice.rows {f : List Int → D} {n : Nat} (y0 y1 : List Int) (h : ∀ xs, Nice (f xs) n) : Nice (.list ((rw2 y0 y1).map (rowD f))) (n + 2) := .list (.map fun p _ => .list (.cons ((nice_keyD _).mono (Nat.zero_le _)) (.cons (h _) .nil)))
/-- a row of a stream -/
theorem ev_key {env : Env} {ρ : List (Str × D)} {y0 y1 : List Int} {p : Nat × Key × List Int} (h : p ∈ two y0 y1) (hk : ρ.lookup ("k" : Str) = some (.int p.1))
    {p1 p2 p3 : Pos} (hg : env.kindOf "_law_streams" = some .globalImplicit) : Ev prog w ⟨A, env, ρ, [], B, KB⟩ (.Subscript (.Name "_law_streams" p1) (.Name "k" p2) p3) (keyD p.2.1) :=
  ev_subT (.of (ev_glob (x := "_law_streams") (d := .tuple streamsD) (by simp [glTab]) hg) rfl) (ev_name hk) (j := p.1) (index_ok (by omega) (two_lt h)) (two_key h)
theorem ev_val {env : Env} {ρ : List (Str × D)} {x : Str} {y0 y1 : List Int} {f : List Int → D} {p : Nat × Key × List Int} (h : p ∈ two y0 y1) (hx : ρ.lookup x = some (.list [f y0, f y1])) (hk : ρ.lookup ("k" : Str) = some (.int p.1))
    {p4 p5 p6 : Pos} (hdx : (x == ("__debug__" : Str)) = false := by decide) : Ev prog w ⟨A, env, ρ, [], B, KB⟩ (.Subscript (.Name x p4) (.Name "k" p5) p6) (f p.2.2) :=
  ev_subL (.of (ev_name hx hdx) rfl) (ev_name hk) (j := p.1) (index_ok (by omega) (two_lt h)) (two_get f h)
end
end Mine
namespace Mine
section
variable {prog : Program} {w : World} {c : Cx} {α : Anc} {R : Flow → Shared → Prop} {A : Around} {B : Heap} {KB : KM} {L a : Addr} {q : Str} {code : Value}
def base3 (b : Bool) (nums y0 y1 : List Int) : List (Str × D) := [("seen", .list [seens b y0, seens b y1]), ("told", .list [tolds b y0, tolds b y1]), ("claimed", .bool b), ("numbers", numsD nums), ("options", optM b)]
def base4 (b : Bool) (nums y0 y1 : List Int) : List (Str × D) := [("read", tabD (seens b) (rw2 y0 y1)), ("table", tabD (tolds b) (rw2 y0 y1)), ("rows", .list ((rw2 y0 y1).map (rowD (tolds b)))), ("seen", .list [seens b y0, seens b y1]), ("told", .list [tolds b y0, tolds b y1]), ("numbers", numsD nums), ("options", optM b)]
set_option maxHeartbeats 8000000 in
theorem law_two {b : Bool} {nums y0 y1 : List Int}
    (hr : Runs prog w ⟨A, fenv 20 L a q code, base4 b nums y0 y1, [], B, KB⟩ α [(bodyAt 20).drop 9] R) :
    Runs prog w ⟨A, fenv 20 L a q code, base3 b nums y0 y1, [], B, KB⟩ α [(bodyAt 20).drop 6] R := by
  refine r_compS (x := "rows") (xs := two y0 y1) (φ := fun p => .int p.1) (p := fun _ => true) (g := fun p => rowD (tolds b) p.2) (β := fun p => [("k", .int p.1)]) [("told", .list [tolds b y0, tolds b y1])] (.list ((rw2 y0 y1).map (rowD (tolds b))))
    ((evIt_range (n := 2) ev_int (by decide) (by decide)).eq rfl) ⟨rfl, rfl, rfl, rfl⟩ (.cons rfl rfl .nil) (fun d hd C => puts_name rfl rfl) (fun d hd => rfl) (fun d hd C => evF_nil)
    (fun d hd _ C => .ofN (evn_list (evL_cons (ev_key hd rfl rfl) (evL_cons (ev_val (f := tolds b) hd rfl rfl) evL_nil)) lim8)) rfl (fun a => .nil) ?_
  refine r_dcompS (x := "table") (xs := two y0 y1) (φ := fun p => .int p.1) (p := fun _ => true) (kf := fun p => p.2.1) (vf := fun p => tolds b p.2.2) (β := fun p => [("k", .int p.1)]) [("told", .list [tolds b y0, tolds b y1])] (tabD (tolds b) (rw2 y0 y1))
    ((evIt_range (n := 2) ev_int (by decide) (by decide)).eq rfl) ⟨rfl, rfl, rfl, rfl⟩ (.cons rfl rfl .nil) (fun d hd C => puts_name rfl rfl) (fun d hd => rfl) (fun d hd C => evF_nil)
    (fun d hd _ C => ⟨ev_key hd rfl rfl, ev_val (f := tolds b) hd rfl rfl⟩) (by kernel_rfl) (fun a => .nil) ?_
  refine r_dcompS (x := "read") (xs := two y0 y1) (φ := fun p => .int p.1) (p := fun _ => true) (kf := fun p => p.2.1) (vf := fun p => seens b p.2.2) (β := fun p => [("k", .int p.1)]) [("seen", .list [seens b y0, seens b y1])] (tabD (seens b) (rw2 y0 y1))
    ((evIt_range (n := 2) ev_int (by decide) (by decide)).eq rfl) ⟨rfl, rfl, rfl, rfl⟩ (.cons rfl rfl .nil) (fun d hd C => puts_name rfl rfl) (fun d hd => rfl) (fun d hd C => evF_nil)
    (fun d hd _ C => ⟨ev_key hd rfl rfl, ev_val (f := seens b) hd rfl rfl⟩) (by kernel_rfl) (fun a => .nil) ?_
  exact r_less hr (.cons rfl (.cons rfl (.cons rfl (.cons rfl (.cons rfl (.cons rfl (.cons rfl .nil))))))) .nil
set_option maxHeartbeats 8000000 in
theorem law_three {b : Bool} {nums y0 y1 : List Int} (h0 : y0.length ≤ lim) (h1 : y1.length ≤ lim) (hA : Fit A 4) (hU : A.units + 16 < cLine)
    (hr : Runs prog w ⟨A, fenv 20 L a q code, base4 b nums y0 y1, [], B, KB⟩ α [(bodyAt 20).drop 10] R) :
    Runs prog w ⟨A, fenv 20 L a q code, base4 b nums y0 y1, [], B, KB⟩ α [(bodyAt 20).drop 9] R := by
  have hA3 : Fit A 3 := hA.le (by decide)
  have ro := rw2_ok h0 h1
  have e : tabD (seens (b && b)) (rw2 y0 y1) = tabD (seens b) (rw2 y0 y1) := by rw [Bool.and_self]
  have ne : ∀ {c : Cx}, c.A = A → EvC prog w c .NotEq (tabD (seens b) (rw2 y0 y1)) (tabD (seens b) (rw2 y0 y1)) false := fun {c} h => ne_same (.tab y0 y1 fun xs => .seens b xs) rfl (by rw [h]; omega)
  refine r_false (evT_bools (evA_or_false (evT_cmp ((ev_opts (f := "parse_xread_unified") (i := 10) (o := b) (by simp [fnTab]) (ev_name rfl) rfl (spec_uni_rows (n := 0) (rw := rw2 y0 y1) (cl := b) (o := b) hA3 id ro)).eq e) (ev_name rfl) (ne rfl))
    (evA_or_false (evT_cmp ((ev_opts (f := "parse_xread_unified") (i := 10) (o := b) (by simp [fnTab]) (ev_name rfl) rfl (spec_uni_tab (n := 0) (rw := rw2 y0 y1) (cl := b) (o := b) hA3 id ro)).eq e) (ev_name rfl) (ne rfl)) evA_nil_or))) (runs_pop ?_)
  exact hr
set_option maxHeartbeats 8000000 in
theorem law_four {b : Bool} {nums y0 y1 : List Int} (h0 : y0.length ≤ lim) (h1 : y1.length ≤ lim) (hA : Fit A 4) (hU : A.units + 16 < cLine)
    (hr : Runs prog w ⟨A, fenv 20 L a q code, base4 b nums y0 y1, [], B, KB⟩ α [(bodyAt 20).drop 13] R) :
    Runs prog w ⟨A, fenv 20 L a q code, base4 b nums y0 y1, [], B, KB⟩ α [(bodyAt 20).drop 10] R := by
  have hA3 : Fit A 3 := hA.le (by decide)
  have ro := rw2_ok h0 h1
  have e : D.list ((rw2 y0 y1).map (rowD (seens (b && b)))) = .list ((rw2 y0 y1).map (rowD (seens b))) := by rw [Bool.and_self]
  have ne : ∀ {c : Cx}, c.A = A → EvC prog w c .NotEq (.list ((rw2 y0 y1).map (rowD (seens b)))) (.list ((rw2 y0 y1).map (rowD (seens b)))) false := fun {c} h => ne_same (.rows y0 y1 fun xs => .seens b xs) rfl (by rw [h]; omega)
  have e' : tabD (fun xs => .list [seens (b && b) xs]) (rw2 y0 y1) = tabD (fun xs => .list [seens b xs]) (rw2 y0 y1) := by rw [Bool.and_self]
  have ne' : ∀ {c : Cx}, c.A = A → EvC prog w c .NotEq (tabD (fun xs => .list [seens b xs]) (rw2 y0 y1)) (tabD (fun xs => .list [seens b xs]) (rw2 y0 y1)) false := fun {c} h => ne_same (.tab (n := 4) y0 y1 fun xs => .list (.cons (.seens b xs) .nil)) rfl (by rw [h]; omega)
  refine r_compS (x := "elder") (xs := two y0 y1) (φ := fun p => .int p.1) (p := fun _ => true) (g := fun p => rowD (seens b) p.2) (β := fun p => [("k", .int p.1)]) [("seen", .list [seens b y0, seens b y1])] (.list ((rw2 y0 y1).map (rowD (seens b))))
    ((evIt_range (n := 2) ev_int (by decide) (by decide)).eq rfl) ⟨rfl, rfl, rfl, rfl⟩ (.cons rfl rfl .nil) (fun d hd C => puts_name rfl rfl) (fun d hd => rfl) (fun d hd C => evF_nil)
    (fun d hd _ C => .ofN (evn_list (evL_cons (ev_key hd rfl rfl) (evL_cons (ev_val (f := seens b) hd rfl rfl) evL_nil)) lim8)) rfl (fun a => .nil) ?_
  refine r_false (evT_bools (evA_or_false (evT_cmp ((ev_opts (f := "parse_xread") (i := 8) (o := b) (by simp [fnTab]) (ev_name rfl) rfl (spec_xread (n := 0) (rw := rw2 y0 y1) (cl := b) (o := b) hA3 id ro)).eq e) (ev_name rfl) (ne rfl))
    (evA_or_false (evT_cmp ((ev_opts (f := "parse_xread_resp3_to_resp2_legacy") (i := 11) (o := b) (by simp [fnTab]) (ev_name rfl) rfl (spec_leg (n := 0) (rw := rw2 y0 y1) (cl := b) (o := b) hA3 id ro)).eq e) (ev_name rfl) (ne rfl)) evA_nil_or))) (runs_pop ?_)
  refine r_false (evT_cmp ((ev_opts (f := "parse_xread_resp3") (i := 9) (o := b) (by simp [fnTab]) (ev_name rfl) rfl (spec_resp3 (n := 0) (rw := rw2 y0 y1) (cl := b) (o := b) hA3 id ro)).eq e')
    (.ofN ((e_dcomp (xs := two y0 y1) (φ := fun p => .int p.1) (p := fun _ => true) (kf := fun p => p.2.1) (vf := fun p => .list [seens b p.2.2]) (β := fun p => [("k", .int p.1)]) [("seen", .list [seens b y0, seens b y1])]
      ((evIt_range (n := 2) ev_int (by decide) (by decide)).eq rfl) ⟨rfl, rfl, rfl, rfl⟩ (.cons rfl rfl .nil) (fun d hd C => puts_name rfl rfl) (fun d hd => rfl) (fun d hd C => evF_nil)
      (fun d hd _ C => ⟨(ev_key hd rfl rfl), .ofN (evn_list (evL_cons (ev_val (f := seens b) hd rfl rfl) evL_nil) lim8)⟩)).eq (b' := tabD (fun xs => .list [seens b xs]) (rw2 y0 y1)) (by kernel_rfl))) (ne' rfl)) (runs_pop ?_)
  exact r_less hr (.cons rfl (.cons rfl (.cons rfl (.cons rfl (.cons rfl (.cons rfl (.cons rfl .nil))))))) .nil
end
end Mine
namespace Mine
section
variable {prog : Program} {w : World} {c : Cx} {α : Anc} {R : Flow → Shared → Prop} {A : Around} {B : Heap} {KB : KM} {L a : Addr} {q : Str} {code : Value}
/-! ## the law, third part: nothing told, one stream, claims -/
theorem seen_cut (x : Int) (b : Bool) : ∃ ds, seenOf x b = .tuple ds ∧ seenOf x false = .tuple (ds.take 2) := by
  unfold seenOf
  split
  · exact ⟨_, rfl, rfl⟩
  · exact ⟨_, rfl, rfl⟩
theorem told_some {x : Int} {b : Bool} (h : x.fmod 4 ≠ 0) : ∃ ds, toldOf x b = .list ds ∧ ds[0]? = some (.bytes (idB (x.fdiv 4))) ∧ (0 : Int) < ds.length := by
  unfold toldOf
  rw [if_neg h]
  refine ⟨_, rfl, rfl, ?_⟩
  simp only [List.cons_append, List.length_cons]
  omega
def live (x : Int) : Bool := !decide (x.fmod 4 = 0)
theorem told_live {x : Int} {b : Bool} : live x = (match toldOf x b with | .none => false | _ => true) := by
  unfold live toldOf
  by_cases h : x.fmod 4 = 0
  · rw [if_pos h, decide_eq_true h]; rfl
  · rw [if_neg h, decide_eq_false h]; rfl
def idsOf (ys : List Int) : List (List UInt8) := (ys.filter live).map fun x => idB (x.fdiv 4)
def namesD (ns : List (List UInt8)) : D := .list (ns.map .bytes)
theorem Nice.names (ns : List (List UInt8)) : Nice (namesD ns) 1 := .list (.map fun _ _ => .bytes)
def base5 (nums : List Int) (ns : List (List UInt8)) (zs : List Int) : List (Str × D) := [("plain", .list (zs.map (entryD · false))), ("names", namesD ns), ("numbers", numsD nums)]
set_option maxHeartbeats 8000000 in
theorem law_five {b : Bool} {nums y0 y1 : List Int} (h0 : y0.length ≤ lim) (h1 : y1.length ≤ lim) (hA : Fit A 4) (hU : A.units + 16 < cLine)
    (hr : Runs prog w ⟨A, fenv 20 L a q code, base4 b nums y0 y1, [], B, KB⟩ α [(bodyAt 20).drop 15] R) :
    Runs prog w ⟨A, fenv 20 L a q code, base4 b nums y0 y1, [], B, KB⟩ α [(bodyAt 20).drop 13] R := by
  have hA3 : Fit A 3 := hA.le (by decide)
  have hA2 : Fit A 2 := hA.le (by decide)
  have hA1 : Fit A 1 := hA.le (by decide)
  have ne0 : ∀ {c : Cx}, c.A = A → EvC prog w c .NotEq (.list []) (.list []) false := fun {c} h => ne_same (n := 1) (.list .nil) rfl (by rw [h]; omega)
  have ne1 : ∀ {c : Cx}, c.A = A → EvC prog w c .NotEq (mkD []) (mkD []) false := fun {c} h => ne_same (n := 1) (.mkD List.nodup_nil fun _ h => nomatch h) rfl (by rw [h]; omega)
  refine r_false (evT_bools (evA_or_false (evT_cmp (ev_call (f := "parse_xread") (i := 8) (by simp [fnTab]) (evArgs_plain (evL_cons ev_none evL_nil) (one_arg rfl)) (spec_xread_none (n := 0) hA1)) (.ofN (evn_list evL_nil (Nat.zero_le _))) (ne0 rfl))
    (evA_or_false (evT_cmp (ev_call (f := "parse_xread_unified") (i := 10) (by simp [fnTab]) (evArgs_plain (evL_cons (.ofN evn_dict0) evL_nil) (one_arg rfl)) (spec_uni_empty (n := 0) hA1)) (.ofN evn_dict0) (ne1 rfl))
    (evA_or_false (evT_cmp (ev_call (f := "parse_xread_unified") (i := 10) (by simp [fnTab]) (evArgs_plain (evL_cons ev_none evL_nil) (one_arg rfl)) (spec_uni_none (n := 0) hA1)) (.ofN evn_dict0) (ne1 rfl))
    (evA_or_false (evT_cmp (ev_call (f := "parse_xread_resp3_to_resp2_legacy") (i := 11) (by simp [fnTab]) (evArgs_plain (evL_cons (.ofN evn_dict0) evL_nil) (one_arg rfl)) (spec_leg_empty (n := 0) hA1)) (.ofN (evn_list evL_nil (Nat.zero_le _))) (ne0 rfl)) evA_nil_or))))) (runs_pop ?_)
  have e : D.list (y0.map (seenOf · (b && b))) = seens b y0 := by rw [Bool.and_self]; rfl
  have ne2 : ∀ (b : Bool) (ys : List Int) {c : Cx}, c.A = A → EvC prog w c .NotEq (seens b ys) (seens b ys) false := fun b ys {c} h => ne_same (.seens b ys) rfl (by rw [h]; omega)
  refine r_false (evT_bools (evA_or_false (evT_cmp ((ev_opts (f := "parse_stream_list") (i := 4) (o := b) (by simp [fnTab]) (ev_subL (.of (ev_name (d := .list [tolds b y0, tolds b y1]) rfl) rfl) ev_int (j := 0) (x := tolds b y0) rfl rfl) rfl (spec_psl (n := 0) hA2 id h0)).eq e) (ev_subL (.of (ev_name (d := .list [seens b y0, seens b y1]) rfl) rfl) ev_int (j := 0) (x := seens b y0) rfl rfl) (ne2 _ _ rfl))
    (evA_or_false (evT_cmp (ev_opts (f := "parse_xclaim") (i := 5) (o := b) (r := seens false y1) (by simp [fnTab]) (ev_subL (.of (ev_name (d := .list [tolds b y0, tolds b y1]) rfl) rfl) ev_int (j := 1) (x := tolds b y1) rfl rfl) rfl (spec_xclaim (n := 0) hA3 h1))
      (.ofN ((e_comp (xs := y1) (φ := (seenOf · b)) (p := fun _ => true) (g := (seenOf · false)) (β := fun x => [("one", seenOf x b)]) [] (evIt_list (ev_subL (.of (ev_name (d := .list [seens b y0, seens b y1]) rfl) rfl) ev_int (j := 1) (x := seens b y1) rfl rfl)) ⟨rfl, rfl, rfl, rfl⟩ .nil
        (fun d hd C => puts_name rfl rfl) (fun d hd => rfl) (fun d hd C => evF_nil) (fun d hd _ C => (by obtain ⟨ds, h1, h2⟩ := seen_cut d b; refine Ev.eq (b := .tuple (ds.take 2)) ?_ h2.symm; refine ev_tslice (ds := ds) (b := 2) ?_ ev_int (by decide); exact ev_name (congrArg some h1)))).eq (b' := seens false y1) (by rw [filt_all]; rfl))) (ne2 _ _ rfl)) evA_nil_or))) (runs_pop ?_)
  exact hr
set_option maxHeartbeats 8000000 in
theorem law_six {b : Bool} {nums y0 y1 : List Int} (h0 : y0.length ≤ lim) (hl : nums.length ≤ 9) (hA : Fit A 4) (hU : A.units + 16 < cLine)
    (hr : Runs prog w ⟨A, fenv 20 L a q code, base5 nums (idsOf y0) ((nums.drop 1).take 3), [], B, KB⟩ α [(bodyAt 20).drop 18] R) :
    Runs prog w ⟨A, fenv 20 L a q code, base4 b nums y0 y1, [], B, KB⟩ α [(bodyAt 20).drop 15] R := by
  have hA1 : Fit A 1 := hA.le (by decide)
  refine r_compS (x := "names") (xs := y0) (φ := (toldOf · b)) (p := live) (g := fun x => .bytes (idB (x.fdiv 4))) (β := fun x => [("one", toldOf x b)]) [] (namesD (idsOf y0))
    (evIt_list (ev_subL (.of (ev_name (d := .list [tolds b y0, tolds b y1]) rfl) rfl) ev_int (j := 0) (x := tolds b y0) rfl rfl)) ⟨rfl, rfl, rfl, rfl⟩ .nil (fun d hd C => puts_name rfl rfl) (fun d hd => rfl) (fun d hd C => evF_one (evT_cmp (ev_name rfl) ev_none (evC_isNot told_live)))
    (fun d hd hp C => (let ⟨ds, h1, h2, h3⟩ := told_some (b := b) (x := d) (by simpa [live] using hp); ev_subL (.of (ev_name (x := "one") (congrArg some h1)) rfl) ev_int (j := 0) (index_ok (by decide) h3) h2)) (by simp only [namesD, idsOf, List.map_map]; rfl) (fun a => .nil) ?_
  have ne : ∀ {c : Cx}, c.A = A → EvC prog w c .NotEq (namesD (idsOf y0)) (namesD (idsOf y0)) false := fun {c} h => ne_same (.names _) rfl (by rw [h]; omega)
  refine r_false (evT_bools (evA_or_false (evT_cmp (ev_call (f := "parse_xclaim") (i := 5) (by simp [fnTab]) (evArgs_named (evL_cons (ev_name rfl) evL_nil) (one_arg rfl) ev_bool) (spec_xclaim_just (n := 0) (d := namesD (idsOf y0)) hA1)) (ev_name rfl) (ne rfl))
    (evA_or_false (evT_cmp (ev_call (f := "parse_xautoclaim") (i := 6) (by simp [fnTab]) (evArgs_named (evL_cons (.ofN (evn_list (evL_cons ev_bytes (evL_cons (ev_name rfl) (evL_cons (.ofN (evn_list evL_nil (Nat.zero_le _))) evL_nil))) lim8)) evL_nil) (one_arg rfl) ev_bool) (spec_xauto_just (n := 0) (d := namesD (idsOf y0)) hA1 rfl (by simp))) (ev_name rfl) (ne rfl)) evA_nil_or))) (runs_pop ?_)
  refine r_compS (x := "plain") (xs := (nums.drop 1).take 3) (φ := D.int) (p := fun _ => true) (g := (entryD · false)) (β := fun x => [("x", .int x)]) [] (.list (((nums.drop 1).take 3).map (entryD · false)))
    ((evIt_list (.ofN (evn_slice (.of (ev_name (d := numsD nums) rfl) rfl) (evP_some ev_int) (evP_some ev_int) evP_none (by simp)))).eq ((pickD_run _ 1 4).trans (by rw [List.map_take, List.map_drop]))) ⟨rfl, rfl, rfl, rfl⟩ .nil
    (fun d hd C => puts_name rfl rfl) (fun d hd => rfl) (fun d hd C => evF_nil) (fun d hd _ C => ev_call (f := "_law_entry") (i := 19) (by simp [fnTab]) (evArgs_plain (evL_cons (ev_name rfl) (evL_cons ev_bool evL_nil)) (two_args rfl)) (spec_entry hA1 d false)) (by rw [filt_all]) (fun a => .nil) ?_
  exact r_less hr (.cons rfl (.cons rfl (.cons rfl .nil))) .nil
set_option maxHeartbeats 8000000 in
theorem law_seven {nums zs : List Int} {ns : List (List UInt8)} (hz : zs.length ≤ lim) (hA : Fit A 4) (hU : A.units + 16 < cLine)
    (hr : Runs prog w ⟨A, fenv 20 L a q code, base5 nums ns zs, [], B, KB⟩ α [(bodyAt 20).drop 20] R) :
    Runs prog w ⟨A, fenv 20 L a q code, base5 nums ns zs, [], B, KB⟩ α [(bodyAt 20).drop 18] R := by
  have hA3 : Fit A 3 := hA.le (by decide)
  refine r_assign (x := "claim") (d := .list [.bytes [57, 45, 57], seens false zs, namesD ns]) (.ofN (evn_xauto (n := 0) (d0 := .bytes [57, 45, 57]) (d2 := namesD ns) (xs := zs) hA3 (evn_list (evL_cons ev_bytes (evL_cons (.ofN ((e_comp (xs := zs) (φ := (entryD · false)) (p := fun _ => true) (g := (toldOf · false)) (β := fun x => [("pair", entryD x false)]) [] (evIt_list (ev_name rfl)) ⟨rfl, rfl, rfl, rfl⟩ .nil
    (fun d hd C => puts_name rfl rfl) (fun d hd => rfl) (fun d hd C => evF_nil) (fun d hd _ C => ev_subT (.of (ev_name (d := entryD d false) rfl) rfl) ev_int (j := 0) rfl rfl)).eq (b' := tolds false zs) (by rw [filt_all]; rfl))) (evL_cons (ev_name rfl) evL_nil))) lim8) hz)) ?_
  refine r_false (evT_cmp (ev_name rfl) (.ofN (evn_list (evL_cons ev_bytes (evL_cons (.ofN ((e_comp (xs := zs) (φ := (entryD · false)) (p := fun _ => true) (g := (seenOf · false)) (β := fun x => [("pair", entryD x false)]) [] (evIt_list (ev_name rfl)) ⟨rfl, rfl, rfl, rfl⟩ .nil
    (fun d hd C => puts_name rfl rfl) (fun d hd => rfl) (fun d hd C => evF_nil) (fun d hd _ C => ev_subT (.of (ev_name (d := entryD d false) rfl) rfl) ev_int (j := 1) rfl rfl)).eq (b' := seens false zs) (by rw [filt_all]; rfl))) (evL_cons (ev_name rfl) evL_nil))) lim8))
    (ne_same (.list (n := 3) (.cons .bytes (.cons (.seens _ _) (.cons ((Nice.names ns).mono (by decide)) .nil)))) rfl (by show A.units + 4 < _; omega))) (runs_pop ?_)
  exact r_less hr (.cons rfl (.cons rfl (.cons rfl .nil))) .nil
end
end Mine
namespace Mine
/-! ## the law: facts of a stream, plainly -/
def eOf (x : Int) : List UInt8 × List (Key × D) := (idB (x.fdiv 4), pairsOf (x.fdiv 4) (nOf x))
def pairE (F : Ent) : D := .tuple [tE F, sE F]
def esOf (zs : List Int) : Es := (zs.filter live).map eOf
theorem entry_live {x : Int} (h : live x = true) : entryD x false = pairE (some (eOf x)) := by
  have h' : x.fmod 4 ≠ 0 := by simpa [live] using h
  unfold entryD toldOf seenOf pairE tE sE eOf
  simp only [if_neg h', flat_pairs, fields_pairs]
  rfl
theorem whole_eq (zs : List Int) : (zs.filter live).map (entryD · false) = (esOf zs).map fun e => pairE (some e) := by
  unfold esOf
  rw [List.map_map]
  exact List.map_congr_left fun x hx => entry_live (List.mem_filter.mp hx).2
theorem eOf_len (x : Int) : (eOf x).2.length ≤ 2 := by
  unfold eOf pairsOf
  simp only [List.length_map, List.length_range]
  exact nOf_lt x
theorem es_len {zs : List Int} : ∀ e ∈ esOf zs, e.2.length ≤ 2 := fun e he => by
  unfold esOf at he
  obtain ⟨x, _, rfl⟩ := List.mem_map.mp he
  exact eOf_len x
theorem es_ids (zs : List Int) : ∀ e ∈ esOf zs, ∀ p ∈ e.2, ∃ b, p.2 = D.bytes b := fun e he p hp => by
  unfold esOf at he
  obtain ⟨x, _, rfl⟩ := List.mem_map.mp he
  unfold eOf pairsOf at hp
  obtain ⟨k, _, rfl⟩ := List.mem_map.mp hp
  exact ⟨_, rfl⟩
/-- a told entry of the right make -/
structure EsOk (es : Es) : Prop where
  lens : ∀ e ∈ es, e.2.length ≤ 2
  vals : ∀ e ∈ es, ∀ p ∈ e.2, ∃ b, p.2 = D.bytes b
  len : es.length ≤ 3
theorem EsOk.of {zs : List Int} (h : zs.length ≤ 3) : EsOk (esOf zs) := ⟨es_len, es_ids zs, by
  unfold esOf
  rw [List.length_map]
  exact Nat.le_trans (List.length_filter_le _ _) h⟩
theorem EsOk.ent {es : Es} (h : EsOk es) : EntOk es.head? := fun p hp => by
  have := h.lens p (List.mem_of_mem_head? (by rw [hp]; exact rfl))
  have : lim = 4096 := rfl
  omega
theorem EsOk.fld {es : Es} (h : EsOk es) {e : List UInt8 × List (Key × D)} (he : e ∈ es) : Nice (mkD (puts e.2 [])) 1 := .puts fun p hp => by
  obtain ⟨b, hb⟩ := h.vals e he p hp
  rw [hb]; exact .bytes
theorem EsOk.seen {es : Es} (h : EsOk es) : Nice (sE es.head?) 2 := by
  cases es with
  | nil => exact .none
  | cons e es => exact .tuple (.cons .bytes (.cons (h.fld List.mem_cons_self) .nil))
def endsL (es : Es) : List D := (es.map fun e => pairE (some e)) ++ [pairE none]
theorem ends_len (es : Es) : (endsL es).length = es.length + 1 := by simp [endsL]
theorem ends_first (es : Es) : (endsL es)[0]? = some (pairE es.head?) := by cases es <;> rfl
theorem ends_last (es : Es) : (endsL es)[es.length]? = some (pairE none) := by
  unfold endsL
  rw [List.getElem?_append_right (by simp)]
  simp
theorem index_last {n : Nat} : seqIndex? (-1) (n + 1) = some n := by
  unfold seqIndex?
  simp
  omega
theorem mem_of_lk : ∀ {ks : List Key} {ds : List D} {k : Key} {d : D}, lk ks ds k = some d → (k, d) ∈ ks.zip ds := fun {ks ds k d} h => by
  unfold lk at h
  obtain ⟨p, hp, rfl⟩ := Option.map_eq_some_iff.mp h
  have h1 := List.find?_some hp
  have h2 := List.mem_of_find?_eq_some hp
  simp only [decide_eq_true_eq] at h1
  rw [← h1]; exact h2
theorem DEq.perm {ks ks' : List Key} {ds es : List D} (hl : ks.length = ks'.length) (h : ∀ k d, (k, d) ∈ ks.zip ds → lk ks' es k = some d) (hok : ∀ d ∈ ds, d.ok) : DEq (.dict ks ds) (.dict ks' es) :=
  .dict (fun k => (lk ks' es k).getD .none) hl (fun k d e => by rw [h k d (mem_of_lk e)]; rfl) fun k d hm => by
    rw [h k d hm]
    exact DEq.refl d (hok d (List.of_mem_zip hm).2)
/-- what is wanted, in the order in which the law writes it -/
def want5 (L G F La gr : D) : List (Key × D) := [(.s "length", L), (.s "last-generated-id", G), (.s "groups", gr), (.s "first-entry", F), (.s "last-entry", La)]
theorem info_eq {L G F La gr : D} (hL : L.ok) (hG : G.ok) (hF : F.ok) (hLa : La.ok) (hgr : gr.ok) : DEq (mkD (info5 L G F La gr)) (mkD (want5 L G F La gr)) := by
  refine .perm rfl (fun k d hm => ?_) fun d hd => ?_
  · have hm : (k, d) ∈ [((.s "length" : Key), L), (.s "last-generated-id", G), (.s "first-entry", F), (.s "last-entry", La), (.s "groups", gr)] := hm
    rcases List.mem_cons.mp hm with e | hm
    · cases e; kernel_rfl
    rcases List.mem_cons.mp hm with e | hm
    · cases e; kernel_rfl
    rcases List.mem_cons.mp hm with e | hm
    · cases e; kernel_rfl
    rcases List.mem_cons.mp hm with e | hm
    · cases e; kernel_rfl
    rcases List.mem_cons.mp hm with e | hm
    · cases e; kernel_rfl
    cases hm
  · have hd : d ∈ [L, G, F, La, gr] := hd
    simp only [List.mem_cons, List.not_mem_nil, or_false] at hd
    rcases hd with rfl | rfl | rfl | rfl | rfl <;> assumption
def b4003 : List UInt8 := [52, 48, 48, 45, 51]
/-- five facts, by their places -/
def five (L G F La gr : D) : List (Nat × List UInt8 × D) := [(0, bLength, L), (1, bLastGen, G), (2, bFirst, F), (3, bLast, La), (4, bGroups, gr)]
def facts5 (L G F La gr : D) : List D := [.bytes bLength, L, .bytes bLastGen, G, .bytes bFirst, F, .bytes bLast, La, .bytes bGroups, gr]
theorem five_get {L G F La gr : D} {p : Nat × List UInt8 × D} (h : p ∈ five L G F La gr) : (facts5 L G F La gr)[(2 * (p.1 : Int)).toNat]? = some (.bytes p.2.1) ∧ (facts5 L G F La gr)[(2 * (p.1 : Int) + 1).toNat]? = some p.2.2 ∧ p.1 < 5 := by
  unfold five at h
  simp only [List.mem_cons, List.not_mem_nil, or_false] at h
  rcases h with rfl | rfl | rfl | rfl | rfl <;> exact ⟨rfl, rfl, by simp⟩
section
variable {prog : Program} {w : World} {c : Cx}
theorem ev_ifb {t b o : Expr} {pos : Pos} {x : Bool} {d : D} (ht : EvT prog w c t x) (hb : x = true → Ev prog w c b d) (ho : x = false → Ev prog w c o d) : Ev prog w c (.IfExp t b o pos) d := by
  cases x with
  | true => exact ev_if_true ht (hb rfl)
  | false => exact ev_if_false ht (ho rfl)
end
end Mine
namespace Mine
section
variable {prog : Program} {w : World} {c : Cx} {α : Anc} {R : Flow → Shared → Prop} {A : Around} {B : Heap} {KB : KM} {L a : Addr} {q : Str} {code : Value}
/-! ## the law, fourth part: a stream's facts -/
def nE (es : Es) : D := .int (((endsL es).length : Int) - 1)
def base6 (nums : List Int) (ns : List (List UInt8)) (es : Es) (plain : D) : List (Str × D) := [("ends", .list (endsL es)), ("plain", plain), ("names", namesD ns), ("numbers", numsD nums)]
set_option maxHeartbeats 8000000 in
theorem law_eight {nums zs : List Int} {ns : List (List UInt8)} (hz : zs.length ≤ 3)
    (hr : Runs prog w ⟨A, fenv 20 L a q code, base6 nums ns (esOf zs) (.list (zs.map (entryD · false))), [], B, KB⟩ α [(bodyAt 20).drop 21] R) :
    Runs prog w ⟨A, fenv 20 L a q code, base5 nums ns zs, [], B, KB⟩ α [(bodyAt 20).drop 20] R := by
  have hlim : lim = 4096 := rfl
  have hlen := (EsOk.of hz).len
  refine r_assign (x := "ends") (d := .list (endsL (esOf zs))) ?_ hr
  refine ev_cat (a := (esOf zs).map fun e => pairE (some e)) (b := [pairE none]) ?_ ?_ (by rw [List.length_append, List.length_map]; show _ + 1 ≤ lim; omega)
  · refine .ofN (EvN.eq (b := .list ((zs.filter live).map (entryD · false))) ?_ (congrArg D.list (whole_eq zs)))
    exact e_comp (xs := zs) (φ := (entryD · false)) (p := live) (g := (entryD · false)) (β := fun x => [("pair", entryD x false)]) [] (evIt_list (ev_name rfl)) ⟨rfl, rfl, rfl, rfl⟩ .nil
      (fun d hd C => puts_name rfl rfl) (fun d hd => rfl) (fun d hd C => evF_one (evT_cmp (ev_subT (.of (ev_name (d := entryD d false) rfl) rfl) ev_int (j := 0) rfl rfl) ev_none (evC_isNot told_live))) (fun d hd _ C => ev_name rfl)
  · exact .ofN (evn_list (evL_cons (.ofN (evn_tuple (evL_cons ev_none (evL_cons ev_none evL_nil)) lim8)) evL_nil) lim8)
set_option maxHeartbeats 8000000 in
theorem law_nine {nums : List Int} {ns : List (List UInt8)} {es : Es} {plain : D} (hes : EsOk es) (hA : Fit A 4) (hU : A.units + 16 < cLine)
    (hr : ∀ fa wa, fa ∉ α.W → wa ∉ α.W → Runs prog w ⟨A, fenv 20 L a q code, base6 nums ns es plain, [("wanted", wa, mkD (want5 (nE es) (.bytes b4003) (sE es.head?) .none (.int 1))), ("facts", fa, .list (facts5 (nE es) (.bytes b4003) (tE es.head?) .none (.int 1)))], B, KB⟩ α [(bodyAt 20).drop 25] R) :
    Runs prog w ⟨A, fenv 20 L a q code, base6 nums ns es plain, [], B, KB⟩ α [(bodyAt 20).drop 21] R := by
  have hlim : lim = 4096 := rfl
  have e0 : ∀ {ρ : List (Str × D)} {O : List (Str × Addr × D)} {p1 p2 p3 : Pos} {n : Nat}, ρ.lookup ("ends" : Str) = some (.list (endsL es)) → Ev prog w ⟨A, fenv 20 L a q code, ρ, O, B, KB⟩ (.Subscript (.Name "ends" p1) (.Constant (.int 0) n p2) p3) (pairE es.head?) := fun h =>
    ev_subL (.of (ev_name h) rfl) ev_int (j := 0) (index_ok (by decide) (by rw [ends_len]; omega)) (ends_first es)
  refine r_own (x := "facts") (d := .list (facts5 (nE es) (.bytes b4003) (tE es.head?) .none (.int 1))) ?_ fun fa hfa => ?_
  · refine evn_list (ds := facts5 (nE es) (.bytes b4003) (tE es.head?) .none (.int 1)) ?_ (lim16 (n := 10))
    unfold facts5
    refine evL_cons ev_bytes (evL_cons ?_ ?_)
    · exact ev_sub (ev_len (.of (ev_name (d := .list (endsL es)) rfl) rfl)) ev_int
    refine evL_cons ev_bytes (evL_cons ev_bytes (evL_cons ev_bytes (evL_cons ?_ ?_)))
    · exact ev_subT (ds := [tE es.head?, sE es.head?]) (.of (e0 rfl) rfl) ev_int (j := 0) rfl rfl
    refine evL_cons ev_bytes (evL_cons ?_ ?_)
    · refine ev_subT (ds := [tE none, sE none]) (.of (d := pairE none) ?_ rfl) ev_int (j := 0) rfl rfl
      exact ev_subL (.of (ev_name (d := .list (endsL es)) rfl) rfl) (ev_neg ev_int) (j := es.length) (x := pairE none) (by rw [ends_len]; exact index_last) (ends_last es)
    exact evL_cons ev_bytes (evL_cons ev_int evL_nil)
  refine @r_own prog w α R _ _ A _ _ _ B KB "wanted" _ _ _ (mkD [(.s "length", nE es), (.s "last-generated-id", .bytes b4003), (.s "groups", .int 1)]) ?_ (fun wa hwa => ?_) rfl rfl rfl
  · refine @evn_dictE _ _ _ _ _ _ [(.s "length", nE es), (.s "last-generated-id", .bytes b4003), (.s "groups", .int 1)] _ ?_ (by kernel_rfl) (by rfl) (lim16 (n := 3))
    refine evD_cons (kk := .s "length") ev_str ?_ (evD_cons (kk := .s "last-generated-id") ev_str ev_bytes (evD_cons (kk := .s "groups") ev_str ev_int evD_nil))
    exact ev_sub (ev_len (.of (ev_name (d := .list (endsL es)) rfl) rfl)) ev_int
  refine r_setD (k := .s "first-entry") (l := [(.s "length", nE es), (.s "last-generated-id", .bytes b4003), (.s "groups", .int 1)]) (d := sE es.head?) ?_ ev_str ?_ (Nat.le_trans (put_len _ _ _) (lim16 (n := 4)))
  · refine ev_ifb (x := es.head?.isNone) ?_ ?_ ?_
    · refine evT_cmp (a := tE es.head?) (b := .none) ?_ ev_none (evC_is (by cases es.head? <;> rfl))
      exact ev_subT (ds := [tE es.head?, sE es.head?]) (.of (e0 rfl) rfl) ev_int (j := 0) rfl rfl
    · intro h
      refine Ev.eq (b := .none) ev_none ?_
      cases hq : es.head? with
      | none => rfl
      | some x => rw [hq] at h; cases h
    · intro _
      exact ev_subT (ds := [tE es.head?, sE es.head?]) (.of (e0 rfl) rfl) ev_int (j := 1) rfl rfl
  refine r_less (ρ' := base6 nums ns es plain) (O' := [("wanted", wa, mkD [(.s "length", nE es), (.s "last-generated-id", .bytes b4003), (.s "groups", .int 1), (.s "first-entry", sE es.head?)]), ("facts", fa, .list (facts5 (nE es) (.bytes b4003) (tE es.head?) .none (.int 1)))]) ?_ (.cons rfl (.cons rfl (.cons rfl (.cons rfl .nil)))) (.own rfl (by kernel_rfl) (.own rfl rfl .nil))
  refine r_setD (k := .s "last-entry") (l := [(.s "length", nE es), (.s "last-generated-id", .bytes b4003), (.s "groups", .int 1), (.s "first-entry", sE es.head?)]) (d := .none) ev_none ev_str ?_ (Nat.le_trans (put_len _ _ _) (lim16 (n := 5)))
  exact r_less (hr fa wa hfa hwa) (.cons rfl (.cons rfl (.cons rfl (.cons rfl .nil)))) (.own rfl (by kernel_rfl) (.own rfl rfl .nil))
end
end Mine
namespace Mine
section
variable {prog : Program} {w : World} {c : Cx} {α : Anc} {R : Flow → Shared → Prop} {A : Around} {B : Heap} {KB : KM} {L a : Addr} {q : Str} {code : Value}
theorem info_ne {es : Es} (hes : EsOk es) {La : D} (hLa : Nice La 2) (hU : c.A.units + 16 < cLine) : EvC prog w c .NotEq (mkD (info5 (nE es) (.bytes b4003) (sE es.head?) La (.int 1))) (mkD (want5 (nE es) (.bytes b4003) (sE es.head?) La (.int 1))) false :=
  evC_ne (info_eq (Nice.int (n := 0)).ok (Nice.bytes (n := 0)).ok hes.seen.ok hLa.ok (Nice.int (n := 0)).ok) rfl (by
    have : Nice (mkD (info5 (nE es) (.bytes b4003) (sE es.head?) La (.int 1))) 3 := .mkD (l := info5 (nE es) (.bytes b4003) (sE es.head?) La (.int 1)) (by show [Key.s "length", .s "last-generated-id", .s "first-entry", .s "last-entry", .s "groups"].Nodup; decide) fun p hp => by
      unfold info5 at hp
      simp only [List.mem_cons, List.not_mem_nil, or_false] at hp
      rcases hp with rfl | rfl | rfl | rfl | rfl
      · exact .int
      · exact .bytes
      · exact hes.seen
      · exact hLa
      · exact .int
    have := this.dep
    omega)
def base7 (nums : List Int) (ns : List (List UInt8)) (es : Es) : List (Str × D) := [("whole", .list (es.map fun e => pairE (some e))), ("names", namesD ns), ("numbers", numsD nums)]
set_option maxHeartbeats 8000000 in
theorem law_ten {nums : List Int} {ns : List (List UInt8)} {es : Es} {plain : D} (hes : EsOk es) (hA : Fit A 4) (hU : A.units + 16 < cLine) {fa wa : Addr}
    (hr : Runs prog w ⟨A, fenv 20 L a q code, base6 nums ns es plain, [("wanted", wa, mkD (want5 (nE es) (.bytes b4003) (sE es.head?) (sE es.head?) (.int 1))), ("facts", fa, .list (facts5 (nE es) (.bytes b4003) (tE es.head?) (tE es.head?) (.int 1)))], B, KB⟩ α [(bodyAt 20).drop 28] R) :
    Runs prog w ⟨A, fenv 20 L a q code, base6 nums ns es plain, [("wanted", wa, mkD (want5 (nE es) (.bytes b4003) (sE es.head?) .none (.int 1))), ("facts", fa, .list (facts5 (nE es) (.bytes b4003) (tE es.head?) .none (.int 1)))], B, KB⟩ α [(bodyAt 20).drop 25] R := by
  have hA3 : Fit A 3 := hA.le (by decide)
  refine r_lent (b_one "facts" (b_one "wanted" b_end (O₁ := []) .nil) (O₁ := [("wanted", wa, mkD (want5 (nE es) (.bytes b4003) (sE es.head?) .none (.int 1)))]) (.cons rfl rfl .nil))
    (evT_cmp (ev_call (f := "parse_xinfo_stream") (i := 7) (by simp [fnTab]) (evArgs_plain (evL_cons (ev_name rfl) evL_nil) (one_arg rfl)) (spec_info (n := 0) (L0 := nE es) (G := .bytes b4003) (F := es.head?) (La := none) (gr := .int 1) hA3 hes.ent (fun _ h => nomatch h))) (ev_name rfl) (info_ne hes .none hU)) ?_
  refine r_setL (k := 7) (ds := facts5 (nE es) (.bytes b4003) (tE es.head?) .none (.int 1)) (d := tE es.head?) (ev_subT (ds := [tE es.head?, sE es.head?]) (.of (ev_subL (.of (ev_name (d := .list (endsL es)) rfl) rfl) ev_int (j := 0) (x := pairE es.head?) (index_ok (by decide) (by rw [ends_len]; omega)) (ends_first es)) rfl) ev_int (j := 0) rfl rfl) ev_int (by decide) (by show (7 : Int) < 10; decide) ?_
  refine r_setD (k := .s "last-entry") (l := want5 (nE es) (.bytes b4003) (sE es.head?) .none (.int 1)) (d := sE es.head?) (ev_subD (k := "first-entry") (evr_own rfl) ev_str (by kernel_rfl)) ev_str ?_ (Nat.le_trans (put_len _ _ _) (lim16 (n := 6)))
  exact r_less hr (.cons rfl (.cons rfl (.cons rfl (.cons rfl .nil)))) (.own rfl (by kernel_rfl) (.own rfl (by kernel_rfl) .nil))
set_option maxHeartbeats 8000000 in
theorem law_eleven {nums zs : List Int} {ns : List (List UInt8)} (hz : zs.length ≤ 3) (hA : Fit A 4) (hU : A.units + 16 < cLine) {fa wa : Addr} (hfa : fa ∉ α.W) (hwa : wa ∉ α.W)
    (hr : Runs prog w ⟨A, fenv 20 L a q code, base7 nums ns (esOf zs), [], B, KB⟩ α [(bodyAt 20).drop 30] R) :
    Runs prog w ⟨A, fenv 20 L a q code, base6 nums ns (esOf zs) (.list (zs.map (entryD · false))), [("wanted", wa, mkD (want5 (nE (esOf zs)) (.bytes b4003) (sE (esOf zs).head?) (sE (esOf zs).head?) (.int 1))), ("facts", fa, .list (facts5 (nE (esOf zs)) (.bytes b4003) (tE (esOf zs).head?) (tE (esOf zs).head?) (.int 1)))], B, KB⟩ α [(bodyAt 20).drop 28] R := by
  have hA3 : Fit A 3 := hA.le (by decide)
  have hes := EsOk.of hz
  refine r_seal "facts" (O' := [("wanted", wa, mkD (want5 (nE (esOf zs)) (.bytes b4003) (sE (esOf zs).head?) (sE (esOf zs).head?) (.int 1)))]) ?_ hfa (.cons rfl rfl .nil)
  refine r_seal "wanted" (O' := []) ?_ hwa .nil
  refine r_false (evT_cmp (ev_call (f := "parse_xinfo_stream") (i := 7) (by simp [fnTab]) (evArgs_plain (evL_cons (.ofN ((e_dcomp (xs := five (nE (esOf zs)) (.bytes b4003) (tE (esOf zs).head?) (tE (esOf zs).head?) (.int 1)) (φ := fun p => .int p.1) (p := fun _ => true) (kf := fun p => .b p.2.1) (vf := fun p => p.2.2) (β := fun p => [("k", .int p.1)]) [("facts", .list (facts5 (nE (esOf zs)) (.bytes b4003) (tE (esOf zs).head?) (tE (esOf zs).head?) (.int 1)))]
      ((evIt_range (n := 5) ev_int (by decide) (by decide)).eq rfl) ⟨rfl, rfl, rfl, rfl⟩ (.cons rfl rfl .nil) (fun d hd C => puts_name rfl rfl) (fun d hd => rfl) (fun d hd C => evF_nil)
      (fun d hd _ C => ⟨ev_subL (.of (ev_name (d := .list (facts5 (nE (esOf zs)) (.bytes b4003) (tE (esOf zs).head?) (tE (esOf zs).head?) (.int 1))) rfl) rfl) (ev_mul ev_int (ev_name rfl) (.of_left (by decide +kernel))) (index_ok (by omega) (by have := (five_get hd).2.2; show 2 * (d.1 : Int) < 10; omega)) (five_get hd).1,
        ev_subL (.of (ev_name (d := .list (facts5 (nE (esOf zs)) (.bytes b4003) (tE (esOf zs).head?) (tE (esOf zs).head?) (.int 1))) rfl) rfl) (ev_add (ev_mul ev_int (ev_name rfl) (.of_left (by decide +kernel))) ev_int) (index_ok (by omega) (by have := (five_get hd).2.2; show 2 * (d.1 : Int) + 1 < 10; omega)) (five_get hd).2.1⟩)).eq (b' := .dict tkeys5 [nE (esOf zs), .bytes b4003, tE (esOf zs).head?, tE (esOf zs).head?, .int 1]) (by kernel_rfl))) evL_nil) (one_arg rfl))
    (spec_infoT (n := 0) (L0 := nE (esOf zs)) (G := .bytes b4003) (F := (esOf zs).head?) (La := (esOf zs).head?) (gr := .int 1) hA3 hes.ent hes.ent)) (ev_name rfl) (info_ne hes hes.seen hU)) (runs_pop ?_)
  refine r_less (ρ' := [("plain", .list (zs.map (entryD · false))), ("names", namesD ns), ("numbers", numsD nums)]) (O' := []) ?_ (.cons rfl (.cons rfl (.cons rfl .nil))) .nil
  refine r_compS (x := "whole") (xs := zs) (φ := (entryD · false)) (p := live) (g := (entryD · false)) (β := fun x => [("pair", entryD x false)]) [] (.list ((esOf zs).map fun e => pairE (some e))) (evIt_list (ev_name rfl)) ⟨rfl, rfl, rfl, rfl⟩ .nil
    (fun d hd C => puts_name rfl rfl) (fun d hd => rfl) (fun d hd C => evF_one (evT_cmp (ev_subT (.of (ev_name (d := entryD d false) rfl) rfl) ev_int (j := 0) rfl rfl) ev_none (evC_isNot told_live))) (fun d hd _ C => ev_name rfl) (congrArg D.list (whole_eq zs)) (fun a => .nil) ?_
  exact r_less hr (.cons rfl (.cons rfl (.cons rfl .nil))) .nil
end
end Mine
namespace Mine
section
variable {prog : Program} {w : World} {c : Cx} {α : Anc} {R : Flow → Shared → Prop} {A : Around} {B : Heap} {KB : KM} {L a : Addr} {q : Str} {code : Value}
/-! ## the law, fifth part: entries, groups -/
def nthD (d : D) (k : Nat) : D := match d with
  | .tuple ds => ds.getD k .none
  | _ => .none
def base8 (nums : List Int) (ns : List (List UInt8)) (es : Es) : List (Str × D) := [("entries", foundE es), ("whole", .list (es.map fun e => pairE (some e))), ("names", namesD ns), ("numbers", numsD nums)]
def kE (e : List UInt8 × List (Key × D)) : Key := .b e.1
def vE (e : List UInt8 × List (Key × D)) : D := mkD (puts e.2 [])
theorem dfold_take (es : Es) {i : Nat} {e : List UInt8 × List (Key × D)} (h : es[i]? = some e) : put (dfold kE vE (es.take i)) (kE e) (vE e) = dfold kE vE (es.take (i + 1)) := by
  rw [List.take_add_one, h, Option.toList, dfold_snoc]
set_option maxHeartbeats 8000000 in
theorem law_twelve {nums : List Int} {ns : List (List UInt8)} {es : Es} (hes : EsOk es) (hA : Fit A 4)
    (hr : Runs prog w ⟨A, fenv 20 L a q code, base8 nums ns es, [], B, KB⟩ α [(bodyAt 20).drop 32] R) :
    Runs prog w ⟨A, fenv 20 L a q code, base7 nums ns es, [], B, KB⟩ α [(bodyAt 20).drop 30] R := by
  have hlim : lim = 4096 := rfl
  refine r_own (x := "entries") evn_dict0 fun ea hea => ?_
  refine r_forD (fun i => base7 nums ns es) (fun i => [("entries", ea, mkD (dfold kE vE (es.take i)))]) (fun d => [("one", nthD d 0), ("two", nthD d 1)])
    (evIt_list (ev_name (d := .list (es.map fun e => pairE (some e))) rfl)) (fun d hd => ?_) (fun i d => .cons rfl rfl (.cons rfl rfl .nil)) (.cons rfl (.cons rfl (.cons rfl .nil))) (.cons rfl .nil) (fun i => .cons .nil) (fun i d α' hd => ?_) (N := es.length) (by simp) ?_
  · obtain ⟨e, he, rfl⟩ := List.mem_map.mp hd
    exact puts_tuple hA.hand (putsL_cons rfl rfl (putsL_cons rfl rfl putsL_nil rfl) rfl) rfl rfl
  · rw [List.getElem?_map] at hd
    obtain ⟨e, he, rfl⟩ := Option.map_eq_some_iff.mp hd
    have hi : i < es.length := (List.getElem?_eq_some_iff.mp he).1
    refine r_setD (k := kE e) (l := dfold kE vE (es.take i)) (d := vE e) (ev_subT (ds := [.bytes e.1, vE e]) (.of (ev_name rfl) rfl) ev_int (j := 1) rfl rfl) (ev_subT (ds := [.bytes e.1, vE e]) (.of (ev_name rfl) rfl) ev_int (j := 0) rfl rfl) ?_
      (by have h1 := put_len (dfold kE vE (es.take i)) (kE e) (vE e); have h2 := dfold_len (kf := kE) (vf := vE) (es.take i); have h3 := List.length_take_le i es; have := hes.len; omega)
    exact r_turn (.cons rfl (.cons rfl (.cons rfl .nil))) (.own rfl (congrArg mkD (dfold_take es he).symm) .nil)
  refine r_seal "entries" (O' := []) ?_ hea .nil
  exact r_less (ρ' := base8 nums ns es) hr (.cons (by show some (mkD (dfold kE vE (es.take es.length))) = _; rw [List.take_length]; rfl) (.cons rfl (.cons rfl (.cons rfl .nil)))) .nil
/-! one reader -/
def rowR (p : List UInt8 × Str × D) : D := .tuple [.bytes p.1, .str p.2.1, p.2.2]
def flatR (l : List (List UInt8 × Str × D)) : List D := l.flatMap fun p => [.bytes p.1, p.2.2]
theorem readers_rd : readersD = rdL.map rowR := rfl
def xBody : List Stmt := forBody 35
def k2Body : List Stmt := match xBody.drop 3 with | .For _ _ b _ _ :: _ => b | _ => []
def rdBody : List Stmt := match k2Body.drop 1 with | .For _ _ b _ _ :: _ => b | _ => []
theorem rd_dict : ∀ m, m ≤ 4 → mkD (dfold (fun p : List UInt8 × Str × D => Key.s p.2.1) (fun p => p.2.2) (rdL.take m)) = rdF m
  | 0, _ => by kernel_rfl
  | 1, _ => by kernel_rfl
  | 2, _ => by kernel_rfl
  | 3, _ => by kernel_rfl
  | 4, _ => by kernel_rfl
  | n + 5, h => by omega
theorem flatR_succ {m i : Nat} {p : List UInt8 × Str × D} (h : (rdL.take m)[i]? = some p) : flatR ((rdL.take m).take i) ++ [.bytes p.1] ++ [p.2.2] = flatR ((rdL.take m).take (i + 1)) := by
  unfold flatR
  rw [List.take_add_one (l := rdL.take m), h, Option.toList, List.flatMap_append]
  simp
theorem flatR_len (l : List (List UInt8 × Str × D)) : (flatR l).length = 2 * l.length := by
  unfold flatR
  induction l with
  | nil => rfl
  | cons p l ih => simp [ih]; omega
def mOf (x : Int) : Nat := (1 + (x.fdiv 3).fmod 4).toNat
theorem mOf_le (x : Int) : mOf x ≤ 4 ∧ 0 ≤ 1 + (x.fdiv 3).fmod 4 := by
  have := fmod4 (x.fdiv 3)
  unfold mOf
  omega
/-- the first facts of the readers -/
theorem ev_rds {env : Env} {ρ : List (Str × D)} {O : List (Str × Addr × D)} {x : Int} {p0 p1 p2 p3 p4 p5 p6 p7 p8 p9 : Pos} {n1 n3 n4 : Nat} (hx : ρ.lookup ("x" : Str) = some (.int x)) (hg : env.kindOf "_law_readers" = some .globalImplicit) :
    Ev prog w ⟨A, env, ρ, O, B, KB⟩ (.Subscript (.Name "_law_readers" p0) (.Slice none (some (.BinOp (.Constant (.int 1) n1 p1) .Add (.BinOp (.BinOp (.Name "x" p2) .FloorDiv (.Constant (.int 3) n3 p3) p4) .Mod (.Constant (.int 4) n4 p5) p6) p7)) none p8) p9) (.tuple ((rdL.take (mOf x)).map rowR)) :=
  (ev_tslice (ev_glob (x := "_law_readers") (d := .tuple readersD) (by simp [glTab]) hg) (ev_add ev_int (ev_mod (ev_div (ev_name hx) ev_int (by decide) (PyProof.noPylong_small (by decide))) ev_int (by decide))) (mOf_le x).2).eq (by rw [readers_rd, ← List.map_take]; rfl)
end
end Mine
namespace Mine
section
variable {prog : Program} {w : World} {c : Cx} {α : Anc} {R : Flow → Shared → Prop} {A : Around} {B : Heap} {KB : KM} {L a : Addr} {q : Str} {code : Value}
/-! ## the law, sixth part: groups -/
def own4 (ga ta fo : Addr) (gs : List Grp) : List (Str × Addr × D) := [("groups", ga, .list (gs.map grpT)), ("tables", ta, .list (gs.map tabT)), ("found", fo, .list (gs.map grpF))]
def own6 (ra sa ga ta fo : Addr) (gs : List Grp) (j m : Nat) : List (Str × Addr × D) := ("readers", ra, .list (List.replicate j (.list (rdFlat m)))) :: ("shown", sa, .list (List.replicate j (rdF m))) :: own4 ga ta fo gs
def base9 (nums : List Int) (ns : List (List UInt8)) (es : Es) (x : Int) : List (Str × D) := ("x", .int x) :: base8 nums ns es
set_option maxHeartbeats 8000000 in
theorem law_k2 {nums : List Int} {ns : List (List UInt8)} {es : Es} {x : Int} {gs : List Grp} {ra sa ga ta fo : Addr} {j : Nat} (hj : j < 3) (hA : Fit A 4) :
    Runs prog w ⟨A, fenv 20 L a q code, ("k2", D.int j) :: base9 nums ns es x, own6 ra sa ga ta fo gs j (mOf x), B, KB⟩ α [k2Body]
      (fun f s' => f = .next ∧ ∃ K', Fr prog w ⟨A, fenv 20 L a q code, base9 nums ns es x, own6 ra sa ga ta fo gs (j + 1) (mOf x), B, KB⟩ α K' s') := by
  have hlim : lim = 4096 := rfl
  have hm := (mOf_le x).1
  have hml : (rdL.take (mOf x)).length ≤ 4 := Nat.le_trans (List.length_take_le _ _) hm
  refine r_own (x := "reader") (evn_list evL_nil (Nat.zero_le _)) fun rd hrd => ?_
  refine r_forD (fun i => base9 nums ns es x) (fun i => ("reader", rd, .list (flatR ((rdL.take (mOf x)).take i))) :: own6 ra sa ga ta fo gs j (mOf x)) (fun d => [("name", nthD d 0), ("text", nthD d 1), ("value", nthD d 2)])
    (evIt_tuple (ev_rds (x := x) rfl rfl)) (fun d hd => ?_) (fun i d => .cons rfl rfl (.cons rfl rfl (.cons rfl rfl .nil))) (.cons rfl (.cons rfl (.cons rfl (.cons rfl (.cons rfl .nil))))) (.cons rfl (.cons rfl (.cons rfl (.cons rfl (.cons rfl (.cons rfl .nil)))))) (fun i => .cons (.cons (.cons (.cons (.cons (.cons .nil)))))) (fun i d α' hd => ?_) (N := (rdL.take (mOf x)).length) (by simp) ?_
  · obtain ⟨p, hp, rfl⟩ := List.mem_map.mp hd
    exact puts_tuple hA.hand (putsL_cons rfl rfl (putsL_cons rfl rfl (putsL_cons rfl rfl putsL_nil rfl) rfl) rfl) rfl rfl
  · rw [List.getElem?_map] at hd
    obtain ⟨p, hp, rfl⟩ := Option.map_eq_some_iff.mp hd
    have hl : (flatR ((rdL.take (mOf x)).take i)).length ≤ 8 := by
      rw [flatR_len]
      have := List.length_take_le' i (rdL.take (mOf x))
      omega
    refine r_append (ds := flatR ((rdL.take (mOf x)).take i)) (d := .bytes p.1) (ev_name rfl) ?_ (by rw [List.length_append]; show _ + 1 ≤ lim; omega)
    refine r_append (ds := flatR ((rdL.take (mOf x)).take i) ++ [.bytes p.1]) (d := p.2.2) (ev_name rfl) ?_ (by rw [List.length_append, List.length_append]; show _ + 1 + 1 ≤ lim; omega)
    exact r_turn (.cons rfl (.cons rfl (.cons rfl (.cons rfl (.cons rfl .nil))))) (.own rfl (congrArg D.list (flatR_succ hp).symm) (.own rfl rfl (.own rfl rfl (.own rfl rfl (.own rfl rfl (.own rfl rfl .nil))))))
  refine r_seal "reader" (O' := own6 ra sa ga ta fo gs j (mOf x)) ?_ hrd (.cons rfl rfl (.cons rfl rfl (.cons rfl rfl (.cons rfl rfl (.cons rfl rfl .nil)))))
  refine r_append (ds := List.replicate j (.list (rdFlat (mOf x)))) (d := .list (rdFlat (mOf x))) ((ev_name rfl).eq (by rw [List.take_length]; rfl)) ?_ (by simp; omega)
  refine r_append (ds := List.replicate j (rdF (mOf x))) (d := rdF (mOf x)) (.ofN ((e_dcomp (xs := rdL.take (mOf x)) (φ := rowR) (p := fun _ => true) (kf := fun p => .s p.2.1) (vf := fun p => p.2.2) (β := fun p => [("name", .bytes p.1), ("text", .str p.2.1), ("value", p.2.2)]) [] (evIt_tuple (ev_rds (x := x) rfl rfl)) ⟨rfl, rfl, rfl, rfl⟩ .nil
    (fun d hd C => puts_tuple hA.hand (putsL_cons rfl rfl (putsL_cons rfl rfl (putsL_cons rfl rfl putsL_nil rfl) rfl) rfl) rfl rfl) (fun d hd => rfl) (fun d hd C => evF_nil) (fun d hd _ C => ⟨ev_name rfl, ev_name rfl⟩)).eq (by rw [filt_all]; exact rd_dict _ hm))) ?_ (by simp; omega)
  exact r_turn (.cons rfl (.cons rfl (.cons rfl (.cons rfl (.cons rfl .nil))))) (.own rfl (by rw [List.replicate_succ']) (.own rfl (by rw [List.replicate_succ']) (.own rfl rfl (.own rfl rfl (.own rfl rfl .nil)))))
def gOf (last : Int) (i : Nat) : Grp := (wordB (last.fdiv (16 ^ i)), (last.fdiv (16 ^ i)).fmod 100, ((last.fdiv (16 ^ i)).fmod 3).toNat, mOf (last.fdiv (16 ^ i)))
theorem gOf_ok (last : Int) (i : Nat) : GrpOk (gOf last i) := ⟨by
  unfold gOf
  have h1 : 0 ≤ (last.fdiv (16 ^ i)).fmod 3 := Int.fmod_nonneg_of_pos _ (by decide)
  have h2 : (last.fdiv (16 ^ i)).fmod 3 < 3 := Int.fmod_lt_of_pos _ (by decide)
  simp only
  omega, (mOf_le _).1⟩
def gsOf (last : Int) (n : Nat) : List Grp := (List.range n).map (gOf last)
theorem gsOf_succ (last : Int) (n : Nat) : gsOf last (n + 1) = gsOf last n ++ [gOf last n] := by unfold gsOf; rw [List.range_succ, List.map_append]; rfl
theorem gsOf_len (last : Int) (n : Nat) : (gsOf last n).length = n := by simp [gsOf]
set_option maxHeartbeats 8000000 in
theorem law_x {nums : List Int} {ns : List (List UInt8)} {es : Es} {last : Int} {n : Nat} (hn : nums.length = n + 1) (hlast : nums[n]? = some last) {ga ta fo : Addr} {i : Nat} (hi : i < 3) (hA : Fit A 4) :
    Runs prog w ⟨A, fenv 20 L a q code, ("k", D.int i) :: base8 nums ns es, own4 ga ta fo (gsOf last i), B, KB⟩ α [xBody]
      (fun f s' => f = .next ∧ ∃ K', Fr prog w ⟨A, fenv 20 L a q code, base8 nums ns es, own4 ga ta fo (gsOf last (i + 1)), B, KB⟩ α K' s') := by
  have hlim : lim = 4096 := rfl
  have hp : (16 ^ i : Int) = 1 ∨ (16 ^ i : Int) = 16 ∨ (16 ^ i : Int) = 256 := by
    have : i = 0 ∨ i = 1 ∨ i = 2 := by omega
    rcases this with rfl | rfl | rfl <;> simp
  have hgl := gsOf_len last i
  refine r_assign (x := "x") (d := .int (last.fdiv (16 ^ i))) (ev_div (ev_subL (.of (ev_name (d := numsD nums) rfl) rfl) (ev_neg ev_int) (j := n) (x := .int last) (by rw [List.length_map, hn]; exact index_last) (by rw [List.getElem?_map, hlast]; rfl))
    (ev_pow (n := (i : Int)) ev_int (ev_name rfl) (by omega) (by rw [show Builtin.Int.intBits 16 = 5 by decide +kernel]; omega)) (b := 16 ^ i) (by rcases hp with h | h | h <;> rw [h] <;> decide) (PyProof.noPylong_small (by rcases hp with h | h | h <;> rw [h] <;> decide))) ?_
  have hg : gOf last i = (wordB (last.fdiv (16 ^ i)), (last.fdiv (16 ^ i)).fmod 100, ((last.fdiv (16 ^ i)).fmod 3).toNat, mOf (last.fdiv (16 ^ i))) := rfl
  generalize hx : last.fdiv (16 ^ i) = x at hg ⊢
  have h3 : 0 ≤ x.fmod 3 ∧ x.fmod 3 < 3 := ⟨Int.fmod_nonneg_of_pos _ (by decide), Int.fmod_lt_of_pos _ (by decide)⟩
  refine r_own (x := "readers") (evn_list evL_nil (Nat.zero_le _)) fun ra hra => ?_
  refine r_own (x := "shown") (evn_list evL_nil (Nat.zero_le _)) fun sa hsa => ?_
  refine r_for (fun j => base9 nums ns es x) (fun j => own6 ra sa ga ta fo (gsOf last i) j (mOf x)) (β := fun j => [("k2", .int j)])
    (evIt_range (n := x.fmod 3) (ev_mod (ev_name rfl) ev_int (by decide)) (by omega) (by omega)) (fun j d hd => by have := up_get hd; subst this; exact puts_name rfl rfl) (fun j => .cons rfl rfl .nil) (.cons rfl (.cons rfl (.cons rfl (.cons rfl (.cons rfl .nil))))) (.cons rfl (.cons rfl (.cons rfl (.cons rfl (.cons rfl .nil))))) (fun j => .cons (.cons (.cons (.cons (.cons .nil))))) (fun j d α' hd => ?_) (N := (x.fmod 3).toNat) (by simp [upD]) ?_
  · have hj : j < 3 := by
      have h1 := (List.getElem?_eq_some_iff.mp hd).1
      simp only [upD, List.length_map, List.length_range] at h1
      omega
    exact law_k2 hj hA
  refine r_seal "readers" (O' := ("shown", sa, .list (List.replicate (x.fmod 3).toNat (rdF (mOf x)))) :: own4 ga ta fo (gsOf last i)) ?_ hra (.cons rfl rfl (.cons rfl rfl (.cons rfl rfl (.cons rfl rfl .nil))))
  refine r_seal "shown" (O' := own4 ga ta fo (gsOf last i)) ?_ hsa (.cons rfl rfl (.cons rfl rfl (.cons rfl rfl .nil)))
  refine r_append (ds := (gsOf last i).map grpT) (d := grpT (gOf last i)) (.ofN ((evn_list (evL_cons ev_bytes (evL_cons (ev_subT (.of (ev_glob (x := "_law_words") (d := .tuple wordsD) (by simp [glTab])) rfl) (ev_mod (ev_name rfl) ev_int (by decide)) (index_ok (fmod_lt x).1 (fmod_lt x).2) (word_get _)) (evL_cons ev_bytes (evL_cons (ev_mod (ev_name rfl) ev_int (by decide)) (evL_cons ev_bytes (evL_cons (ev_name rfl) evL_nil)))))) lim8).eq (by rw [hg]; rfl))) ?_ (by simp [hgl]; omega)
  refine r_append (ds := (gsOf last i).map tabT) (d := tabT (gOf last i)) (@ev_dictE _ _ _ _ _ _ [(.b bName, .bytes (wordB x)), (.b bPel, .int (x.fmod 100)), (.b bConsumers, .list [])] _ (by
    refine evD_cons (kk := .b bName) ev_bytes ?_ (evD_cons (kk := .b bPel) ev_bytes (ev_mod (ev_name rfl) ev_int (by decide)) (evD_cons (kk := .b bConsumers) ev_bytes (.ofN (evn_list evL_nil (Nat.zero_le _))) evD_nil))
    exact ev_subT (.of (ev_glob (x := "_law_words") (d := .tuple wordsD) (by simp [glTab])) rfl) (ev_mod (ev_name rfl) ev_int (by decide)) (index_ok (fmod_lt x).1 (fmod_lt x).2) (word_get _)) (by rw [hg]; kernel_rfl) (by rfl) (lim16 (n := 3))) ?_ (by simp [hgl]; omega)
  refine r_append (ds := (gsOf last i).map grpF) (d := grpF (gOf last i)) (@ev_dictE _ _ _ _ _ _ (grp3 (.bytes (wordB x)) (.int (x.fmod 100)) (.list (List.replicate (x.fmod 3).toNat (rdF (mOf x))))) _ (by
    refine evD_cons (kk := .s "name") ev_str ?_ (evD_cons (kk := .s "pel-count") ev_str (ev_mod (ev_name rfl) ev_int (by decide)) (evD_cons (kk := .s "consumers") ev_str (ev_name rfl) evD_nil))
    exact ev_subT (.of (ev_glob (x := "_law_words") (d := .tuple wordsD) (by simp [glTab])) rfl) (ev_mod (ev_name rfl) ev_int (by decide)) (index_ok (fmod_lt x).1 (fmod_lt x).2) (word_get _)) (by rw [hg]; kernel_rfl) (by rfl) (lim16 (n := 3))) ?_ (by simp [hgl]; omega)
  exact r_turn (.cons rfl (.cons rfl (.cons rfl (.cons rfl .nil)))) (.own rfl (by rw [gsOf_succ, List.map_append]; rfl) (.own rfl (by rw [gsOf_succ, List.map_append]; rfl) (.own rfl (by rw [gsOf_succ, List.map_append]; rfl) .nil)))
end
end Mine
namespace Mine
section
variable {prog : Program} {w : World} {c : Cx}
/-! ## a dict display that opens with a mapping -/
theorem display_star {A : Around} {E : Value → Shared → Prop} {s : Shared} {Q : Value → Shared → Prop} {t0 k v : Sem Value}
    (h : wpAny (model prog w) A t0 (fun m s1 => ∀ E' : Value → Shared → Prop, wpAny (model prog w) A (mergeMapping s.heap.objs.size m false) (fun _ s1a =>
      wpAny (model prog w) A (subDict [(k, v)]) (fun sub s3 => ∀ E' : Value → Shared → Prop, wpAny (model prog w) A (mergeMapping s.heap.objs.size (.ref sub) false) (fun _ s4 => Q (.ref s.heap.objs.size) s4) E' s3) E s1a) E' s1) E { s with heap := s.heap.push { cls := .type "dict", data := .dict #[] } }) :
    wpAny (model prog w) A (dictDisplay [(none, t0), (some k, v)]) Q E s := by
  unfold dictDisplay
  dsimp only
  rw [List.forIn_cons]
  dsimp only
  simp only [List.isEmpty_nil, if_true]
  refine wpAny_bind (wpAny_bind (wpAny_bind (wpAny_pure ?_)))
  dsimp only
  refine wpAny_bind (wpAny_alloc ?_)
  refine wpAny_bind (wpAny_holding (wpAny_mono h (fun m s1 hm => ?_) fun _ _ e => e))
  refine wpAny_bind (wpAny_onRaise (wpAny_tryCatch (wpAny_onRaise (wpAny_holding (wpAny_mono (hm _) (fun _ s1a h2 => ?_) fun _ _ e => e)))))
  refine wpAny_pure ?_
  dsimp only
  rw [List.forIn_cons]
  dsimp only
  rw [if_neg (by simp)]
  refine wpAny_bind (wpAny_pure ?_)
  dsimp only
  rw [List.forIn_nil]
  refine wpAny_pure ?_
  dsimp only [List.nil_append]
  rw [if_neg (by simp)]
  refine wpAny_bind (wpAny_bind (wpAny_holding (wpAny_mono h2 (fun sub s3 hs => ?_) fun _ _ e => e)))
  refine wpAny_bind (wpAny_onRaise (wpAny_holding (wpAny_mono (hs _) (fun _ s4 h4 => ?_) fun _ _ e => e)))
  exact wpAny_pure (wpAny_pure h4)
theorem evn_dictstar {e0 k v : Expr} {pos : Pos} {kk : Key} {d : D} {l : List (Key × D)} (h0 : Ev prog w c e0 (mkD l)) (hk : Ev prog w c k (keyD kk)) (hv : Ev prog w c v d) (hz : l.length + 1 ≤ lim) : EvN prog w c (.Dict [none, some k] [e0, v] pos) (mkD (puts [(kk, d)] (puts l []))) := fun K s Q E ok q => by
  have n0 : Next K s K { s with heap := s.heap.push { cls := .type "dict", data := .dict #[] } } := .keep ok.inH (kp_push s _)
  have f0 := get_size s.heap
  have k0 := none_of_fresh ok.inH f0
  rw [arm_eval_Dict]
  refine wpAny_bind (wpAny_standAt ?_)
  show wpAny (model prog w) c.A (dictDisplay [(none, do let x ← eval e0 c.env; standAt pos; pure x), (some (eval k c.env), do let x ← eval v c.env; standAt pos; pure x)]) Q E s
  refine display_star ?_
  have hnew : (s.heap.push { cls := .type "dict", data := .dict #[] }).DictOf (keyKind prog w) s.heap.objs.size [] := Heap.DictOf.new s.heap
  have al : ∃ o, (s.heap.push { cls := .type "dict", data := .dict #[] }).get? s.heap.objs.size = some o := ⟨_, Heap.get?_push_size _ rfl⟩
  refine wpAny_bind (h0 K _ _ E (ok.next n0) fun K1 m s1 n1 r1 => wpAny_bind (wpAny_standAt (wpAny_pure ?_)))
  have k1 : K1 s.heap.objs.size = none := let ⟨o, e⟩ := al; n1.notIn k0 e
  have hlim : lim = 4096 := rfl
  generalize hm : mkD l = dd at r1
  cases r1 with
  | none => cases hm
  | bool => cases hm
  | int => cases hm
  | str => cases hm
  | bytes => cases hm
  | addr => cases hm
  | tuple => cases hm
  | list => cases hm
  | @dict b o kvs _ us _ g1 g2 g3 g4 g5 g6 g7 g8 =>
  injection hm with e1 e2
  subst e1 e2 g5
  have hd0 : DAt prog w K1 kvs l := ⟨g4, g6⟩
  have ho := n1.inH _ _ g1
  have hne : s.heap.objs.size ≠ b := fun e => by rw [e] at k1; rw [k1] at g1; cases g1
  have hlen : kvs.length ≤ lim := by rw [hd0.len]; omega
  intro E'
  refine merge_dict hne g3 (hnew.keep fun b o e => n1.keeps.get e) (Heap.dictOf_iff.mpr ⟨o, ho, g2⟩) (fun h => nomatch h) (fun h' hm' hs' => ?_) (by show 0 + kvs.length ≤ _; have := lim_size hlen; omega)
  have na : Next K s K1 { s1 with heap := h', toks := s1.toks } := (n0.trans n1).touched f0 k1 hs' s1.toks
  have ok2 : Ok prog w c K1 { s1 with heap := h', toks := s1.toks } := ok.next na
  have alD : ∃ o, h'.get? s.heap.objs.size = some o := let ⟨o, _, _, e, _⟩ := hm'; ⟨o, e⟩
  have fS := get_size h'
  have kS := none_of_fresh ok2.inH fS
  have nb : Next K1 { s1 with heap := h', toks := s1.toks } K1 { s1 with heap := h'.push { cls := .type "dict", data := .dict #[] } } := .keep ok2.inH (kp_push { s1 with heap := h' } _)
  have hnewS : (h'.push { cls := .type "dict", data := .dict #[] }).DictOf (keyKind prog w) h'.objs.size [] := Heap.DictOf.new h'
  have alS : ∃ o, (h'.push { cls := .type "dict", data := .dict #[] }).get? h'.objs.size = some o := ⟨_, Heap.get?_push_size _ rfl⟩
  have hEv : EvD prog w c [some k] [v] [(kk, d)] := evD_cons hk hv evD_nil
  refine wpAny_subDict (knd := keyKind prog w) (by simp) (hEv pos K1 _ _ E (ok2.next nb) fun K2 us s2 n2 ⟨kvs2, hc, hd2⟩ => ?_)
  have kS2 : K2 h'.objs.size = none := let ⟨o, e⟩ := alS; n2.notIn kS e
  refine ⟨kvs2, hc, hnewS.keep fun b o e => n2.keeps.get e, fun h'' hd'' hs'' => ?_⟩
  have nn : Next K1 { s1 with heap := h', toks := s1.toks } K2 { s2 with heap := h'', toks := s2.toks + us.length } := (nb.trans n2).touched fS kS2 hs'' _
  have kD2 : K2 s.heap.objs.size = none := let ⟨o, e⟩ := alD; nn.notIn k1 e
  have hDS : s.heap.objs.size ≠ h'.objs.size := fun e => by obtain ⟨o, ho⟩ := alD; rw [e, fS] at ho; cases ho
  have hSS : (h'.objs.size == sysModules) = false := ok2.notMods (Nat.le_refl _)
  intro E''
  have l1 : (merged ([] : List (Key × Value)) kvs).length ≤ lim := by
    have := (merged_rep hd0 .nil).len
    have h2 := puts_len l []
    simp only [List.length_nil] at h2
    omega
  have l2 : (merged ([] : List (Key × Value)) kvs2).length ≤ 1 := by
    have := (merged_rep hd2 .nil).len
    have h2 := puts_len [(kk, d)] []
    simp only [List.length_nil, List.length_cons] at h2
    omega
  refine merge_dict hDS hSS (hm'.keep fun b o e => nn.keeps.get e) hd'' (fun h => nomatch h) (fun h3 hd3 hs3 => ?_) (by have := lim_size l1; have : sizeLine = _ := sizeLine_eq; omega)
  have nf : Next K s K2 { s2 with heap := h3, toks := s2.toks + us.length } := (na.trans nn).touched f0 kD2 hs3 _
  refine q K2 _ _ nf f0 kD2 (top_dict hd3 ?_ (ok.notMods (Nat.le_refl _)) (by have := puts_len [(kk, d)] (puts l []); have h2 := puts_len l []; simp only [List.length_nil, List.length_cons] at this h2; omega))
  have hA : DAt prog w K2 (merged [] kvs) (puts l []) := (merged_rep hd0 .nil).mono nn.sub
  have hB : DAt prog w K2 (merged [] kvs2) (puts [(kk, d)] []) := merged_rep hd2 .nil
  exact merged_rep hB hA
end
end Mine
namespace Mine
section
variable {prog : Program} {w : World} {c : Cx} {α : Anc} {R : Flow → Shared → Prop} {A : Around} {B : Heap} {KB : KM} {L a : Addr} {q : Str} {code : Value}
/-! ## the law, seventh part: groups, full -/
def kOf (nums : List Int) : Int := if 7 < nums.length then (nums.getD 7 0).fmod 3 else 0
theorem kOf_lt (nums : List Int) : 0 ≤ kOf nums ∧ kOf nums < 3 := by
  unfold kOf
  split
  · exact ⟨Int.fmod_nonneg_of_pos _ (by decide), Int.fmod_lt_of_pos _ (by decide)⟩
  · exact ⟨by decide, by decide⟩
def base10 (ns : List (List UInt8)) (es : Es) (gs : List Grp) : List (Str × D) := [("found", .list (gs.map grpF)), ("tables", .list (gs.map tabT)), ("groups", .list (gs.map grpT)), ("entries", foundE es), ("whole", .list (es.map fun e => pairE (some e))), ("names", namesD ns)]
set_option maxHeartbeats 8000000 in
theorem law_thirteen {nums : List Int} {ns : List (List UInt8)} {es : Es} {last : Int} {n : Nat} (hn : nums.length = n + 1) (hl : nums.length ≤ 9) (hlast : nums[n]? = some last) (hA : Fit A 4)
    (hr : Runs prog w ⟨A, fenv 20 L a q code, base10 ns es (gsOf last (kOf nums).toNat), [], B, KB⟩ α [(bodyAt 20).drop 36] R) :
    Runs prog w ⟨A, fenv 20 L a q code, base8 nums ns es, [], B, KB⟩ α [(bodyAt 20).drop 32] R := by
  have hlim : lim = 4096 := rfl
  have hk := kOf_lt nums
  refine r_own (x := "groups") (evn_list evL_nil (Nat.zero_le _)) fun ga hga => ?_
  refine r_own (x := "tables") (evn_list evL_nil (Nat.zero_le _)) fun ta hta => ?_
  refine r_own (x := "found") (evn_list evL_nil (Nat.zero_le _)) fun fo hfo => ?_
  refine r_for (fun i => base8 nums ns es) (fun i => own4 ga ta fo (gsOf last i)) (β := fun i => [("k", .int i)])
    (evIt_range (n := kOf nums) (ev_ifb (x := decide (7 < nums.length)) ((evT_cmp (ev_len (ds := nums.map .int) (.of (ev_name (d := numsD nums) rfl) rfl)) ev_int evC_gtInt).eq (by simp; omega))
      (fun h => Ev.eq (ev_mod (ev_subL (ds := (nums.drop 7).map .int) (j := 0) (x := .int (nums.getD 7 0)) (.ofN ((evn_slice (.of (ev_name (d := numsD nums) rfl) rfl) (evP_some ev_int) evP_none evP_none (by simp)).eq (congrArg D.list ((pickD_from _ 7).trans (by rw [List.map_drop])))))
        ev_int (index_ok (by decide) (by simp only [List.length_map, List.length_drop]; have := of_decide_eq_true h; omega)) (by have := of_decide_eq_true h; rw [List.getElem?_map, List.getElem?_drop, List.getD_eq_getElem?_getD, List.getElem?_eq_getElem (by omega)]; rfl)) ev_int (by decide)) (by unfold kOf; rw [if_pos (of_decide_eq_true h)]))
      (fun h => Ev.eq ev_int (by unfold kOf; rw [if_neg (of_decide_eq_false h)]))) (by omega) (by omega)) (fun i d hd => by have := up_get hd; subst this; exact puts_name rfl rfl) (fun i => .cons rfl rfl .nil) (.cons rfl (.cons rfl (.cons rfl (.cons rfl .nil)))) (.cons rfl (.cons rfl (.cons rfl .nil))) (fun i => .cons (.cons (.cons .nil))) (fun i d α' hd => ?_) (N := (kOf nums).toNat) (by simp [upD]) ?_
  · have hi : i < 3 := by
      have h1 := (List.getElem?_eq_some_iff.mp hd).1
      simp only [upD, List.length_map, List.length_range] at h1
      omega
    exact law_x hn hlast hi hA
  refine r_seal "groups" (O' := [("tables", ta, .list ((gsOf last (kOf nums).toNat).map tabT)), ("found", fo, .list ((gsOf last (kOf nums).toNat).map grpF))]) ?_ hga (.cons rfl rfl (.cons rfl rfl .nil))
  refine r_seal "tables" (O' := [("found", fo, .list ((gsOf last (kOf nums).toNat).map grpF))]) ?_ hta (.cons rfl rfl .nil)
  refine r_seal "found" (O' := []) ?_ hfo .nil
  exact r_less hr (.cons rfl (.cons rfl (.cons rfl (.cons rfl (.cons rfl (.cons rfl .nil)))))) .nil
/-! what is found equals itself -/
theorem nice_rdF : ∀ m, m ≤ 4 → Nice (rdF m) 2 := fun m hm => by
  refine .mkD ?_ fun p hp => ?_
  · match m, hm with
    | 0, _ => decide
    | 1, _ => decide
    | 2, _ => decide
    | 3, _ => decide
    | 4, _ => decide
    | n + 5, h => omega
  · obtain ⟨r, hr, rfl⟩ := List.mem_map.mp hp
    have hr := List.mem_of_mem_take hr
    unfold rdL at hr
    simp only [List.mem_cons, List.not_mem_nil, or_false] at hr
    rcases hr with rfl | rfl | rfl | rfl
    · exact .bytes
    · exact .int
    · exact .none
    · exact .list .nil
theorem nice_grp3 {x y z : D} {n : Nat} (hx : Nice x n) (hy : Nice y n) (hz : Nice z n) : Nice (mkD (grp3 x y z)) (n + 1) := by
  refine .mkD (by show [Key.s "name", .s "pel-count", .s "consumers"].Nodup; decide) fun p hp => ?_
  unfold grp3 at hp
  simp only [List.mem_cons, List.not_mem_nil, or_false] at hp
  rcases hp with rfl | rfl | rfl <;> assumption
theorem nice_grpF {g : Grp} (hg : GrpOk g) : Nice (grpF g) 4 := nice_grp3 .bytes .int (.list (.of fun d hd => by rw [(List.mem_replicate.mp hd).2]; exact nice_rdF _ hg.fcs))
theorem nice_tabF (g : Grp) : Nice (tabF g) 4 := nice_grp3 .bytes .int (.list .nil)
theorem nice_info3 {x y z : D} {n : Nat} (hx : Nice x n) (hy : Nice y n) (hz : Nice z n) : Nice (mkD (info3 x y z)) (n + 1) := by
  refine .mkD (by show [Key.s "length", .s "entries", .s "groups"].Nodup; decide) fun p hp => ?_
  unfold info3 at hp
  simp only [List.mem_cons, List.not_mem_nil, or_false] at hp
  rcases hp with rfl | rfl | rfl <;> assumption
theorem nice_found {es : Es} (h : EsOk es) : Nice (foundE es) 2 := by
  unfold foundE
  rw [dfold_puts]
  refine .puts fun p hp => ?_
  obtain ⟨e, he, rfl⟩ := List.mem_map.mp hp
  exact h.fld he
theorem info3_got (x y z : D) : mkD (puts (info3 x y z) []) = mkD (info3 x y z) := by kernel_rfl
theorem tabF_star (g : Grp) : mkD (puts [(Key.s "consumers", .list [])] (puts (grp3 (.bytes g.1) (.int g.2.1) (rdsF g)) [])) = tabF g := by kernel_rfl
end
end Mine
namespace Mine
section
variable {prog : Program} {w : World} {c : Cx} {α : Anc} {R : Flow → Shared → Prop} {A : Around} {B : Heap} {KB : KM} {L a : Addr} {q : Str} {code : Value}
/-! ## the law, eighth part: full -/
set_option maxHeartbeats 8000000 in
theorem law_full {ns : List (List UInt8)} {es : Es} {gs : List Grp} (hes : EsOk es) (hgs : ∀ g ∈ gs, GrpOk g) (hgl : gs.length ≤ 3) (hA : Fit A 4) (hU : A.units + 16 < cLine)
    (hr : Runs prog w ⟨A, fenv 20 L a q code, base10 ns es gs, [], B, KB⟩ α [(bodyAt 20).drop 38] R) :
    Runs prog w ⟨A, fenv 20 L a q code, base10 ns es gs, [], B, KB⟩ α [(bodyAt 20).drop 36] R := by
  have hlim : lim = 4096 := rfl
  have hA3 : Fit A 3 := hA.le (by decide)
  have hz : gs.length ≤ lim := by omega
  have hes2 : ∀ p ∈ es, 2 * p.2.length ≤ lim := fun p hp => by have := hes.lens p hp; omega
  refine r_assign (x := "full") (d := mkD (info3 (.int 3) (foundE es) (.list (gs.map grpF)))) ?_ ?_
  · refine ev_call (f := "parse_xinfo_stream") (i := 7) (by simp [fnTab]) (evArgs_named (evL_cons (d := .list (told3 (.int 3) (.list (es.map toldE)) (.list (gs.map grpT)))) ?_ evL_nil) (one_arg rfl) ev_bool) (spec_full (n := 0) (L0 := .int 3) hA3 hes2 hgs hz)
    refine .ofN (evn_list (ds := told3 (.int 3) (.list (es.map toldE)) (.list (gs.map grpT))) ?_ (lim16 (n := 6)))
    unfold told3
    refine evL_cons ev_bytes (evL_cons ev_int (evL_cons ev_bytes (evL_cons ?_ (evL_cons ev_bytes (evL_cons (ev_name rfl) evL_nil)))))
    refine .ofN (EvN.eq (b := .list ((es.filter fun _ => true).map toldE)) ?_ (by rw [filt_all]))
    exact e_comp (xs := es) (φ := fun e => pairE (some e)) (p := fun _ => true) (g := toldE) (β := fun e => [("pair", pairE (some e))]) [] (evIt_list (ev_name rfl)) ⟨rfl, rfl, rfl, rfl⟩ .nil
      (fun d hd C => puts_name rfl rfl) (fun d hd => rfl) (fun d hd C => evF_nil) (fun d hd _ C => ev_subT (ds := [tE (some d), sE (some d)]) (.of (ev_name rfl) rfl) ev_int (j := 0) rfl rfl)
  refine r_false (evT_cmp (a := mkD (info3 (.int 3) (foundE es) (.list (gs.map grpF)))) (b := mkD (info3 (.int 3) (foundE es) (.list (gs.map grpF)))) (ev_name rfl) ?_
    (ne_same (nice_info3 (n := 5) .int ((nice_found hes).mono (by decide)) (.list (.map fun g hg => nice_grpF (hgs g hg)))) rfl (by show A.units + 6 < _; omega))) (runs_pop ?_)
  · refine @ev_dictE _ _ _ _ _ _ (info3 (.int 3) (foundE es) (.list (gs.map grpF))) _ ?_ (info3_got _ _ _) (by rfl) (lim16 (n := 3))
    unfold info3
    exact evD_cons (kk := .s "length") ev_str ev_int (evD_cons (kk := .s "entries") ev_str (ev_name rfl) (evD_cons (kk := .s "groups") ev_str (ev_name rfl) evD_nil))
  exact r_less hr (.cons rfl (.cons rfl (.cons rfl (.cons rfl (.cons rfl (.cons rfl .nil)))))) .nil
set_option maxHeartbeats 8000000 in
theorem law_fullT {ns : List (List UInt8)} {es : Es} {gs : List Grp} (hes : EsOk es) (hgl : gs.length ≤ 3) (hA : Fit A 4) (hU : A.units + 16 < cLine)
    (hr : Runs prog w ⟨A, fenv 20 L a q code, [("names", namesD ns)], [], B, KB⟩ α [(bodyAt 20).drop 40] R) :
    Runs prog w ⟨A, fenv 20 L a q code, base10 ns es gs, [], B, KB⟩ α [(bodyAt 20).drop 38] R := by
  have hlim : lim = 4096 := rfl
  have hA3 : Fit A 3 := hA.le (by decide)
  have hes2 : ∀ p ∈ es, 2 * p.2.length ≤ lim := fun p hp => by have := hes.lens p hp; omega
  refine r_assign (x := "full") (d := mkD (info3 (.int 3) (foundE es) (.list (gs.map tabF)))) ?_ ?_
  · refine @ev_call prog w _ "parse_xinfo_stream" 7 _ _ _ _ [.dict tkeys3 [.int 3, .list (es.map toldE), .list (gs.map tabT)]] [("full", .bool true)] _ (by simp [fnTab]) ?_ (by exact spec_fullT (n := 0) (L0 := .int 3) hA3 hes2) (by rfl) (by decide)
    refine @evArgs_named prog w _ _ _ _ _ _ (.bool true) ?_ (by exact one_arg rfl) (by exact ev_bool)
    refine @evL_cons prog w _ _ _ (.dict tkeys3 [.int 3, .list (es.map toldE), .list (gs.map tabT)]) [] ?_ (by exact evL_nil) (by rfl)
    refine @ev_dictE _ _ _ _ _ _ [(.b bLength, .int 3), (.b bEntries, .list (es.map toldE)), (.b bGroups, .list (gs.map tabT))] _ ?_ (by kernel_rfl) (by rfl) (lim16 (n := 3))
    refine evD_cons (kk := .b bLength) ev_bytes ev_int (evD_cons (kk := .b bEntries) ev_bytes ?_ (evD_cons (kk := .b bGroups) ev_bytes (ev_name rfl) evD_nil))
    refine .ofN (EvN.eq (b := .list ((es.filter fun _ => true).map toldE)) ?_ (by rw [filt_all]))
    exact e_comp (xs := es) (φ := fun e => pairE (some e)) (p := fun _ => true) (g := toldE) (β := fun e => [("pair", pairE (some e))]) [] (evIt_list (ev_name rfl)) ⟨rfl, rfl, rfl, rfl⟩ .nil
      (fun d hd C => puts_name rfl rfl) (fun d hd => rfl) (fun d hd C => evF_nil) (fun d hd _ C => ev_subT (ds := [tE (some d), sE (some d)]) (.of (ev_name rfl) rfl) ev_int (j := 0) rfl rfl)
  refine r_false (evT_cmp (a := mkD (info3 (.int 3) (foundE es) (.list (gs.map tabF)))) (b := mkD (info3 (.int 3) (foundE es) (.list (gs.map tabF)))) (ev_name rfl) ?_
    (ne_same (nice_info3 (n := 5) .int ((nice_found hes).mono (by decide)) (.list (.map fun g hg => nice_tabF g))) rfl (by show A.units + 6 < _; omega))) (runs_pop ?_)
  · refine @ev_dictE _ _ _ _ _ _ (info3 (.int 3) (foundE es) (.list (gs.map tabF))) _ ?_ (info3_got _ _ _) (by rfl) (lim16 (n := 3))
    unfold info3
    refine evD_cons (kk := .s "length") ev_str ev_int (evD_cons (kk := .s "entries") ev_str (ev_name rfl) (evD_cons (kk := .s "groups") ev_str ?_ evD_nil))
    refine .ofN (EvN.eq (b := .list ((gs.filter fun _ => true).map tabF)) ?_ (by rw [filt_all]))
    refine e_comp (xs := gs) (φ := grpF) (p := fun _ => true) (g := tabF) (β := fun g => [("one", grpF g)]) [] (evIt_list (ev_name rfl)) ⟨rfl, rfl, rfl, rfl⟩ .nil
      (fun d hd C => puts_name rfl rfl) (fun d hd => rfl) (fun d hd C => evF_nil) (fun g hg _ C => ?_)
    refine .ofN (EvN.eq (b := mkD (puts [(Key.s "consumers", .list [])] (puts (grp3 (.bytes g.1) (.int g.2.1) (rdsF g)) []))) ?_ (tabF_star g))
    exact evn_dictstar (kk := .s "consumers") (l := grp3 (.bytes g.1) (.int g.2.1) (rdsF g)) (ev_name rfl) ev_str (.ofN (evn_list evL_nil (Nat.zero_le _))) (lim16 (n := 4))
  exact r_less hr (.cons rfl .nil) .nil
end
end Mine
namespace Mine
section
variable {prog : Program} {w : World} {c : Cx} {α : Anc} {R : Flow → Shared → Prop} {A : Around} {B : Heap} {KB : KM} {L a : Addr} {q : Str} {code : Value}
/-! ## the law, ninth part: what waits -/
def enN (ns : List (List UInt8)) : List (Nat × List UInt8) := (List.range ns.length).zip ns
theorem enum_en (ns : List (List UInt8)) : enumD (ns.map D.bytes) = (enN ns).map fun p => .tuple [.int p.1, .bytes p.2] := by
  unfold enumD enN
  rw [List.length_map, List.zipWith_map_right, List.map_zip_eq_zipWith]
  rfl
def bOne : List UInt8 := [111, 110, 101]
def waitL (p : Nat × List UInt8) : List D := [.bytes p.2, .bytes bOne, .int 5, .int p.1]
def wordsN (n : Nat) : List D := (List.range n).map fun k => wordsD.getD k .none
theorem wordsN_len (n : Nat) : (wordsN n).length = n := by simp [wordsN]
theorem wordsN_pos {ns : List (List UInt8)} (h : (!ns.isEmpty) = true) : (wordsN ns.length).isEmpty = false := by
  cases ns with
  | nil => cases h
  | cons a l =>
    have := wordsN_len (a :: l).length
    cases hw : wordsN (a :: l).length with
    | nil => rw [hw] at this; cases this
    | cons x y => rfl
theorem nice_range (ns : List (List UInt8)) : Nice (rangeD ((enN ns).map waitL)) 2 := by
  refine .list (.of fun d hd => ?_)
  obtain ⟨y, hy, rfl⟩ := List.mem_map.mp hd
  obtain ⟨p, _, rfl⟩ := List.mem_map.mp hy
  refine .puts fun r hr => ?_
  unfold waitL at hr
  simp only [keys4, List.zip_cons_cons, List.zip_nil_right, List.mem_cons, List.not_mem_nil, or_false] at hr
  rcases hr with rfl | rfl | rfl | rfl
  · exact .bytes
  · exact .bytes
  · exact .int
  · exact .int
theorem nice_word {k : Nat} : Nice (wordsD.getD k .none) 0 := by
  by_cases h : k < wordsD.length
  · rw [List.getD_eq_getElem?_getD, List.getElem?_eq_getElem h]
    have : wordsD[k] ∈ wordsD := List.getElem_mem h
    generalize wordsD[k] = d at this
    show Nice d 0
    unfold wordsD at this
    simp only [List.mem_cons, List.not_mem_nil, or_false] at this
    rcases this with rfl | rfl | rfl | rfl | rfl <;> exact .bytes
  · rw [List.getD_eq_getElem?_getD, List.getElem?_eq_none (by omega)]
    exact .none
theorem nice_pend (d0 d1 d2 : D) (n : Nat) (h0 : Nice d0 0) (h1 : Nice d1 0) (h2 : Nice d2 0) : Nice (pendD d0 d1 d2 (wordsN n)) 4 := by
  refine .puts fun p hp => ?_
  simp only [List.mem_cons, List.not_mem_nil, or_false] at hp
  rcases hp with rfl | rfl | rfl | rfl
  · exact h0.mono (by decide)
  · exact h1.mono (by decide)
  · exact h2.mono (by decide)
  · refine .list (.of fun d hd => ?_)
    obtain ⟨m, hm, rfl⟩ := List.mem_map.mp hd
    refine .puts fun p hp => ?_
    simp only [List.mem_cons, List.not_mem_nil, or_false] at hp
    rcases hp with rfl | rfl
    · obtain ⟨k, _, rfl⟩ := List.mem_map.mp hm
      exact nice_word.mono (by decide)
    · exact .int
set_option maxHeartbeats 8000000 in
theorem law_waits {ns : List (List UInt8)} (hn : ns.length ≤ 3) (hA : Fit A 4) (hU : A.units + 16 < cLine)
    (hr : Runs prog w ⟨A, fenv 20 L a q code, [("names", namesD ns)], [], B, KB⟩ α [(bodyAt 20).drop 43] R) :
    Runs prog w ⟨A, fenv 20 L a q code, [("names", namesD ns)], [], B, KB⟩ α [(bodyAt 20).drop 40] R := by
  have hA2 : Fit A 2 := hA.le (by decide)
  refine r_compS (x := "waits") (xs := enN ns) (φ := fun p => .tuple [.int p.1, .bytes p.2]) (p := fun _ => true) (g := fun p => .list (waitL p)) (β := fun p => [("k", .int p.1), ("name", .bytes p.2)]) [] (.list (((enN ns).map waitL).map D.list)) ((evIt_enum (ev_name (d := namesD ns) rfl)).eq (enum_en ns)) ⟨rfl, rfl, rfl, rfl⟩ .nil
    (fun d hd C => puts_tuple hA.hand (putsL_cons rfl rfl (putsL_cons rfl rfl putsL_nil rfl) rfl) rfl rfl) (fun d hd => rfl) (fun d hd C => evF_nil) (fun d hd _ C => .ofN (evn_list (evL_cons (ev_name rfl) (evL_cons ev_bytes (evL_cons ev_int (evL_cons (ev_name rfl) evL_nil)))) (lim16 (n := 4)))) (by rw [filt_all, List.map_map]; rfl) (fun a => .nil) ?_
  refine r_compS (x := "rowed") (xs := enN ns) (φ := fun p => .tuple [.int p.1, .bytes p.2]) (p := fun _ => true) (g := fun p => mkD (puts (keys4.zip (waitL p)) [])) (β := fun p => [("k", .int p.1), ("name", .bytes p.2)]) [] (rangeD ((enN ns).map waitL)) ((evIt_enum (ev_name (d := namesD ns) rfl)).eq (enum_en ns)) ⟨rfl, rfl, rfl, rfl⟩ .nil
    (fun d hd C => puts_tuple hA.hand (putsL_cons rfl rfl (putsL_cons rfl rfl putsL_nil rfl) rfl) rfl rfl) (fun d hd => rfl) (fun d hd C => evF_nil) (fun d hd _ C => @ev_dictE _ _ _ _ _ _ (keys4.zip (waitL d)) _ (by exact evD_cons (kk := .s "message_id") ev_str (ev_name rfl) (evD_cons (kk := .s "consumer") ev_str ev_bytes (evD_cons (kk := .s "time_since_delivered") ev_str ev_int (evD_cons (kk := .s "times_delivered") ev_str (ev_name rfl) evD_nil)))) rfl (by rfl) (lim16 (n := 4))) (by rw [filt_all]; unfold rangeD; rw [List.map_map]; rfl) (fun a => .nil) ?_
  refine r_false (evT_cmp (ev_call (f := "parse_xpending") (i := 12) (by simp [fnTab]) (evArgs_named (evL_cons (ev_name rfl) evL_nil) (one_arg rfl) ev_bool) (spec_pend_detail (n := 0) (ys := (enN ns).map waitL) hA2 (fun y hy => by obtain ⟨p, _, rfl⟩ := List.mem_map.mp hy; rfl))) (ev_name rfl) (ne_same (nice_range ns) rfl (by show A.units + 2 < _; omega))) (runs_pop ?_)
  exact r_less hr (.cons rfl .nil) .nil
set_option maxHeartbeats 8000000 in
theorem law_end {ns : List (List UInt8)} (hn : ns.length ≤ 3) (hA : Fit A 4) (hU : A.units + 16 < cLine)
    (fin : ∀ K' v s', Stp α.W α.K α.s K' s' → Rep prog w K' v (.bool true) → R (.ret v) s') :
    Runs prog w ⟨A, fenv 20 L a q code, [("names", namesD ns)], [], B, KB⟩ α [(bodyAt 20).drop 43] R := by
  have hlim : lim = 4096 := rfl
  have hA1 : Fit A 1 := hA.le (by decide)
  have hlen : ∀ {ρ : List (Str × D)} {p pos : Pos}, ρ.lookup ("names" : Str) = some (namesD ns) → Ev prog w ⟨A, fenv 20 L a q code, ρ, [], B, KB⟩ (.Call (.Name "len" p) [.Name "names" pos] [] pos) (.int ns.length) := fun h => by
    refine Ev.eq (ev_len (ds := ns.map .bytes) (.of (ev_name h) rfl)) (by rw [List.length_map])
  refine r_compS (x := "counts") (xs := List.range ns.length) (φ := fun k => .int (k : Int)) (p := fun _ => true) (g := fun k => .list [wordsD.getD k .none, .bytes b12]) (β := fun k => [("k", .int (k : Int))]) [] (.list ((wordsN ns.length).map fun n => .list [n, .bytes b12]))
    ?_ ⟨rfl, rfl, rfl, rfl⟩ .nil (fun d hd C => puts_name rfl rfl) (fun d hd => rfl) (fun d hd C => evF_nil) (fun k hk _ C => ?_) (by rw [filt_all]; unfold wordsN; rw [List.map_map]; rfl) (fun a => .nil) ?_
  · exact evIt_range (n := (ns.length : Int)) (Ev.eq (ev_len (ds := ns.map .bytes) (.of (ev_name (d := namesD ns) rfl) rfl)) (by rw [List.length_map])) (by omega) (by omega)
  · have h5 : k < wordsD.length := by
      have := List.mem_range.mp hk
      show k < 5
      omega
    refine .ofN (evn_list (evL_cons ?_ (evL_cons ev_bytes evL_nil)) (lim16 (n := 2)))
    refine ev_subT (ds := wordsD) (k := (k : Int)) (j := k) (x := wordsD.getD k .none) ?_ (ev_name rfl) (index_ok (by omega) (by omega)) (by rw [List.getD_eq_getElem?_getD, List.getElem?_eq_getElem h5]; rfl)
    exact .of (ev_glob (x := "_law_words") (d := .tuple wordsD) (by simp [glTab])) rfl
  have hn12 : ∀ {ρ : List (Str × D)} {p1 p2 p3 p4 p5 : Pos} {n1 : Nat}, ρ.lookup ("names" : Str) = some (namesD ns) → Ev prog w ⟨A, fenv 20 L a q code, ρ, [], B, KB⟩ (.BinOp (.Constant (.int 12) n1 p1) .Mult (.Call (.Name "len" p2) [.Name "names" p3] [] p4) p5) (.int (12 * (ns.length : Int))) := fun h =>
    ev_mul ev_int (Ev.eq (ev_len (ds := ns.map .bytes) (.of (ev_name h) rfl)) (by rw [List.length_map])) (.of_left (by decide +kernel))
  refine @r_assign prog w α R _ _ A _ _ _ B KB "summed" _ _ _ (pendD (.int (12 * (ns.length : Int))) (.bytes [48, 45, 48]) (.bytes [57, 45, 57]) (wordsN ns.length)) ?_ ?_ rfl rfl rfl
  · refine @ev_dictE _ _ _ _ _ _ [(.s "pending", .int (12 * (ns.length : Int))), (.s "min", .bytes [48, 45, 48]), (.s "max", .bytes [57, 45, 57]), (.s "consumers", .list ((wordsN ns.length).map fun n => mkD (puts [(.s "name", n), (.s "pending", .int 12)] [])))] _ ?_ rfl (by rfl) (lim16 (n := 4))
    refine evD_cons (kk := .s "pending") ev_str (hn12 rfl) (evD_cons (kk := .s "min") ev_str ev_bytes (evD_cons (kk := .s "max") ev_str ev_bytes (evD_cons (kk := .s "consumers") ev_str ?_ evD_nil)))
    refine .ofN (EvN.eq (b := .list (((wordsN ns.length).filter fun _ => true).map fun n => mkD (puts [(.s "name", n), (.s "pending", .int 12)] []))) ?_ (by rw [filt_all]))
    refine e_comp (xs := wordsN ns.length) (φ := fun n => .list [n, .bytes b12]) (p := fun _ => true) (g := fun n => mkD (puts [(.s "name", n), (.s "pending", .int 12)] [])) (β := fun n => [("one", .list [n, .bytes b12])]) [] (evIt_list (ev_name rfl)) ⟨rfl, rfl, rfl, rfl⟩ .nil (fun d hd C => puts_name rfl rfl) (fun d hd => rfl) (fun d hd C => evF_nil) (fun n hn _ C => ?_)
    refine @ev_dictE _ _ _ _ _ _ [(.s "name", n), (.s "pending", .int 12)] _ ?_ rfl (by rfl) (lim16 (n := 2))
    exact evD_cons ev_str (ev_subL (.of (ev_name (d := .list [n, .bytes b12]) rfl) rfl) ev_int (j := 0) rfl rfl) (evD_cons ev_str ev_int evD_nil)
  refine r_ret (d := .bool true) ?_ fin
  refine ev_cmp (a := pendD (.int (12 * (ns.length : Int))) (.bytes [48, 45, 48]) (.bytes [57, 45, 57]) (wordsN ns.length)) (b := pendD (.int (12 * (ns.length : Int))) (.bytes [48, 45, 48]) (.bytes [57, 45, 57]) (wordsN ns.length)) ?_ (ev_name rfl) (evC_eq (DEq.refl _ (nice_pend _ _ _ _ .int .bytes .bytes).ok) rfl (by have := (nice_pend (.int (12 * (ns.length : Int))) (.bytes [48, 45, 48]) (.bytes [57, 45, 57]) ns.length .int .bytes .bytes).dep; show A.units + _ < _; omega))
  refine ev_call (f := "parse_xpending") (i := 12) (by simp [fnTab]) (evArgs_plain (evL_cons (d := .list [.int (12 * (ns.length : Int)), .bytes [48, 45, 48], .bytes [57, 45, 57], if (wordsN ns.length).isEmpty then .none else .list ((wordsN ns.length).map fun n => .list [n, .bytes b12])]) ?_ evL_nil) (one_arg rfl)) (spec_pend (n := 0) hA1 (by rw [wordsN_len]; omega))
  refine .ofN (evn_list ?_ (lim16 (n := 4)))
  refine evL_cons (hn12 rfl) (evL_cons ev_bytes (evL_cons ev_bytes (evL_cons ?_ evL_nil)))
  refine ev_ifb (x := !ns.isEmpty) ?_ ?_ ?_
  · exact evT_ref (d := namesD ns) (.of (ev_name rfl) rfl) (by cases ns <;> rfl)
  · intro h
    refine Ev.eq (b := .list ((wordsN ns.length).map fun n => .list [n, .bytes b12])) (ev_name rfl) (by rw [wordsN_pos h]; rfl)
  · intro h
    refine Ev.eq (b := .none) ev_none ?_
    cases ns with
    | nil => rfl
    | cons n ns => cases h
end
end Mine
namespace Mine
section
variable {prog : Program} {w : World} {c : Cx} {α : Anc} {R : Flow → Shared → Prop} {A : Around} {B : Heap} {KB : KM} {L a : Addr} {q : Str} {code : Value}
/-! ## the law, whole -/
theorem yAt_len {nums : List Int} {n0 : Int} {k : Nat} : (yAt nums n0 k).length ≤ 3 := by
  unfold yAt cntAt
  have := fmod4 (n0.fdiv (4 ^ k))
  exact Nat.le_trans (List.length_take_le _ _) (by omega)
set_option maxHeartbeats 8000000 in
theorem law_whole {xs : List Int} (hxs : xs.length ≤ 63) (hA : Fit A 4) (hU : A.units + 16 < cLine)
    (fin : ∀ K' v s', Stp α.W α.K α.s K' s' → Rep prog w K' v (.bool true) → R (.ret v) s') :
    Runs prog w ⟨A, fenv 20 L a q code, [("script", numsD xs)], [], B, KB⟩ α [bodyAt 20] R := by
  have hlim : lim = 4096 := rfl
  have hl : ((xs ++ [0, 0]).take 9).length ≤ 9 := List.length_take_le _ _
  have hlen : 0 < ((xs ++ [0, 0]).take 9).length := by rw [List.length_take, List.length_append]; simp only [List.length_cons, List.length_nil]; omega
  obtain ⟨n0, h0⟩ : ∃ n0, ((xs ++ [0, 0]).take 9)[0]? = some n0 := ⟨_, List.getElem?_eq_getElem hlen⟩
  refine law_one hxs h0 hA ?_
  generalize (xs ++ [0, 0]).take 9 = nums at *
  obtain ⟨n, hn⟩ : ∃ n, nums.length = n + 1 := ⟨nums.length - 1, by omega⟩
  obtain ⟨last, hlast⟩ : ∃ last, nums[n]? = some last := ⟨_, List.getElem?_eq_getElem (by omega)⟩
  have y0 := yAt_len (nums := nums) (n0 := n0) (k := 0)
  have y1 := yAt_len (nums := nums) (n0 := n0) (k := 1)
  generalize clOf n0 = b
  have hz : ((nums.drop 1).take 3).length ≤ 3 := List.length_take_le _ _
  show Runs prog w ⟨A, fenv 20 L a q code, base2 nums n0, [], B, KB⟩ α [(bodyAt 20).drop 6] R
  refine law_two (b := clOf n0) (y0 := yAt nums n0 0) (y1 := yAt nums n0 1) ?_
  refine law_three (by omega) (by omega) hA hU ?_
  refine law_four (by omega) (by omega) hA hU ?_
  refine law_five (by omega) (by omega) hA hU ?_
  refine law_six (by omega) hl hA hU ?_
  refine law_seven (by omega) hA hU ?_
  refine law_eight hz ?_
  refine law_nine (EsOk.of hz) hA hU fun fa wa hfa hwa => ?_
  refine law_ten (EsOk.of hz) hA hU ?_
  refine law_eleven hz hA hU hfa hwa ?_
  refine law_twelve (EsOk.of hz) hA ?_
  refine law_thirteen hn hl hlast hA ?_
  have hk := kOf_lt nums
  have hgl : (gsOf last (kOf nums).toNat).length ≤ 3 := by rw [gsOf_len]; omega
  refine law_full (EsOk.of hz) (fun g hg => by obtain ⟨i, _, rfl⟩ := List.mem_map.mp hg; exact gOf_ok last i) hgl hA hU ?_
  refine law_fullT (EsOk.of hz) hgl hA hU ?_
  have hids : (idsOf (yAt nums n0 0)).length ≤ 3 := by
    unfold idsOf
    rw [List.length_map]
    exact Nat.le_trans (List.length_filter_le _ _) y0
  exact law_waits hids hA hU (law_end hids hA hU fin)
end
end Mine
namespace Mine
/-! ## what the module's top has left, read off the written-out objects -/
mutual
def repIn (K : Frag) : D → Value → Bool
  | .none, v => (match v with | .none => true | _ => false)
  | .int i, v => (match v with | .int j _ => i == j | _ => false)
  | .str x, v => (match v with | .str y _ => x == y | _ => false)
  | .bytes b, v => (match v with | .bytes c _ => c.toList == b | _ => false)
  | .tuple ds, v => (match v with
    | .ref a => (match K.lookup a with
      | some ⟨.type T, _, .seq items _, _⟩ => T == "tuple" && allIn K ds items.toList && decide (ds.length ≤ lim)
      | _ => false)
    | _ => false)
  | .list ds, v => (match v with
    | .ref a => (match K.lookup a with
      | some ⟨.type T, d, .seq items _, sl⟩ => T == "list" && allIn K ds items.toList && decide (ds.length ≤ lim) && d.isNone && sl.toList.isEmpty
      | _ => false)
    | _ => false)
  | _, _ => false
def allIn (K : Frag) : List D → List Value → Bool
  | [], vs => (match vs with | [] => true | _ => false)
  | d :: ds, vs => (match vs with | v :: vs => repIn K d v && allIn K ds vs | [] => false)
end
mutual
theorem repIn_ok {prog : Program} {w : World} {K : Frag} {h : Heap} (X : K.In h) : ∀ (d : D) (v : Value), repIn K d v = true → Rep prog w (fun a => h.get? a) v d
  | .none, v, e => by cases v <;> simp [repIn] at e; exact .none
  | .bool b, v, e => by simp [repIn] at e
  | .addr a, v, e => by simp [repIn] at e
  | .dict ks ds, v, e => by simp [repIn] at e
  | .int i, v, e => by
    cases v <;> simp [repIn] at e
    subst e; exact .int _ _
  | .str x, v, e => by
    cases v <;> simp [repIn] at e
    subst e; exact .str _ _
  | .bytes b, v, e => by
    cases v <;> simp [repIn] at e
    rename_i c t
    have : c = b.toArray := by rw [← e]
    rw [this]; exact .bytes _ _
  | .tuple ds, v, e => by
    cases v <;> simp only [repIn] at e <;> try cases e
    rename_i a
    split at e
    · rename_i T dd items n sl ho
      simp only [Bool.and_eq_true, beq_iff_eq, decide_eq_true_eq] at e
      obtain ⟨⟨rfl, e1⟩, e2⟩ := e
      exact .tuple (vs := items.toList) (X _ _ ho) rfl rfl (allIn_ok X ds _ e1) e2
    · cases e
  | .list ds, v, e => by
    cases v <;> simp only [repIn] at e <;> try cases e
    rename_i a
    split at e
    · rename_i T dd items n sl ho
      simp only [Bool.and_eq_true, beq_iff_eq, decide_eq_true_eq] at e
      obtain ⟨⟨⟨⟨rfl, e1⟩, e2⟩, e3⟩, e4⟩ := e
      exact .list (vs := items.toList) (X _ _ ho) rfl rfl (allIn_ok X ds _ e1) e2 ⟨by simpa using e3, by simpa using e4⟩
    · cases e
theorem allIn_ok {prog : Program} {w : World} {K : Frag} {h : Heap} (X : K.In h) : ∀ (ds : List D) (vs : List Value), allIn K ds vs = true → All prog w (fun a => h.get? a) vs ds
  | [], vs, e => by
    cases vs with
    | nil => exact .nil
    | cons v vs => simp [allIn] at e
  | d :: ds, vs, e => by
    cases vs with
    | nil => simp [allIn] at e
    | cons v vs =>
      simp only [allIn, Bool.and_eq_true] at e
      exact .cons (repIn_ok X d v e.1) (allIn_ok X ds vs e.2)
end
def fnAt (K : Frag) (a : Addr) : Option FuncData := match K.lookup a with
  | some ⟨_, _, .func fd, _⟩ => some fd
  | _ => none
theorem fnAt_get {K : Frag} {a : Addr} {fd : FuncData} (e : fnAt K a = some fd) : ∃ o, K.lookup a = some o ∧ o.data = .func fd := by
  unfold fnAt at e
  split at e
  · rename_i ho; cases e; exact ⟨_, ho, rfl⟩
  · cases e
def codeAt (K : Frag) (a : Addr) : Bool := match fnAt K a with
  | some fd => codeIn K fd.code fd.qualname
  | none => false
def ffAt (K : Frag) (v : Value) : Bool := match v with
  | .ref b => (match K.lookup b with
    | some ⟨.type T, _, .seq items _, _⟩ => T == "tuple" && (match items.toList with | [.bool false, .bool false] => true | _ => false)
    | _ => false)
  | _ => false
theorem fn_in {K : Frag} {h : Heap} {mg : Str → Option Value} {n : Str} {a : Addr} {i : Nat} (X : K.In h) (G : h.Ns mainGlobals mg) (e1 : nsIn K mainGlobals n = some (some (.ref a)))
    (hp : (fnAt K a).map (·.params) = some (paramsAt i)) (hb : (fnAt K a).map (·.body) = some (.stmts (bodyAt i))) (hs : (fnAt K a).map (·.scope) = some (scopeAt i))
    (hg : (fnAt K a).map (fun fd => (fd.globals, fd.builtins, fd.closure, fd.kwdefaults)) = some (mainGlobals, builtinsNs, [], .none)) (hc : codeAt K a = true)
    (hd : ((paramsAt i).defaults = [] ∧ (fnAt K a).map (·.defaults) = some .none) ∨ (i = 3 ∧ ((fnAt K a).map fun fd => ffAt K fd.defaults) = some true)) :
    ∃ a o fd, mg n = some (.ref a) ∧ h.get? a = some o ∧ o.data = .func fd ∧ FnIs h fd i := by
  cases hf : fnAt K a with
  | none => rw [hf] at hp; cases hp
  | some fd =>
    rw [hf] at hp hb hs hg hd
    simp only [Option.map_some, Option.some.injEq] at hp hb hs hg hd
    obtain ⟨o, ho, hod⟩ := fnAt_get hf
    have hg1 := congrArg (·.1) hg
    have hg2 := congrArg (·.2.1) hg
    have hg3 := congrArg (·.2.2.1) hg
    have hg4 := congrArg (·.2.2.2) hg
    unfold codeAt at hc
    rw [hf] at hc
    refine ⟨a, o, fd, mg_of X G e1, X _ _ ho, hod, ⟨hp, hb, hs, hg1, hg2, hg3, hg4, codeRec_of X hc, ?_⟩⟩
    rcases hd with ⟨h1, h2⟩ | ⟨h1, h2⟩
    · exact .inl ⟨by rw [hp]; exact h1, h2⟩
    · refine .inr ⟨h1, ?_⟩
      unfold ffAt at h2
      split at h2
      · rename_i b hv
        split at h2
        · rename_i T dd items m sl hb
          simp only [Bool.and_eq_true, beq_iff_eq] at h2
          obtain ⟨rfl, h2⟩ := h2
          refine ⟨b, _, hv, X _ _ hb, rfl, m, ?_⟩
          split at h2
          · rename_i hi
            have : items = #[.bool false, .bool false] := by
              apply Array.toList_inj.mp
              rw [hi]
            rw [this]
          · cases h2
        · cases h2
      · cases h2
theorem bind_law {B : Heap} {fd : FuncData} (h : FnIs B fd 20) (u : Value) : bindArgs fd ⟨[u], []⟩ = pure [((("script" : Str), u) : Str × Value)] := by
  have hd := no_default h (by decide)
  unfold bindArgs
  simp only [h.params, hd]
  rfl
theorem wellInts {prog : Program} {w : World} {P : Params} {h : Heap} {K : KM} : ∀ (xs : List Int) {vs : List Value}, WellAll P h vs (ofPys (xs.map .int)) → All prog w K vs (xs.map .int)
  | [], vs, e => by
    rw [List.map_nil, ofPys] at e
    cases e; exact .nil
  | x :: xs, vs, e => by
    rw [List.map_cons, ofPys, ofPy] at e
    cases e with
    | cons e1 e2 =>
      cases e1
      exact .cons (.int _ _) (wellInts xs e2)
section
variable {prog : Program} {w : World}
/-- the law, called -/
theorem law_call {A : Around} {B : Heap} {KB : KM} {a l : Addr} {o : Obj} {fd : FuncData} {s : Shared} {xs : List Int} {R : Result → Shared → Prop} (hA : Fit A 5) (hU : A.units + 19 < cLine) (hB : BaseOk prog w B KB) (h1 : B.get? a = some o) (h2 : o.data = .func fd) (h3 : FnIs B fd 20)
    (h4 : ∀ b o, B.get? b = some o → s.heap.get? b = some o) (hK : InH KB s.heap) (hl : Rep prog w KB (.ref l) (numsD xs)) (hxs : xs.length ≤ 63) (fin : ∀ s', Kp s s' → R (.ok (.ret (.bool true))) s') :
    codeAny (model prog w) A (.call (.ref a) ⟨[.ref l], []⟩) R s := by
  refine enter (K := KB) (ρ := [("script", numsD xs)]) (Fit.here (n := 4) hA) hA.hand hB (.refl _) h1 h2 h3 h4 hK (fun Q E hq => by
    rw [bind_law h3]
    exact wpAny_pure (hq KB _ s (.refl hK) rfl (.cons hl .nil))) rfl rfl rfl (fun _ _ _ => rfl) fun L qn code => ?_
  show Runs prog w ⟨A.deeper (fenv 20 L a qn code), fenv 20 L a qn code, [("script", numsD xs)], [], B, KB⟩ _ _ _
  have hA1 : Fit (A.deeper (fenv 20 L a qn code)) 4 := hA.deeper
  refine law_whole hxs hA1 (by show A.units + 3 + 16 < _; omega) fun K' v s' st r => ?_
  cases r
  exact fin s' (st.toNext fun b hb => nomatch hb).keeps
end
end Mine
namespace Mine
structure FnChk (K : Frag) (n : Str) (a : Addr) (i : Nat) : Prop where
  name : nsIn K mainGlobals n = some (some (.ref a))
  params : (fnAt K a).map (·.params) = some (paramsAt i)
  body : (fnAt K a).map (·.body) = some (.stmts (bodyAt i))
  scope : (fnAt K a).map (·.scope) = some (scopeAt i)
  rest : (fnAt K a).map (fun fd => (fd.globals, fd.builtins, fd.closure, fd.kwdefaults)) = some (mainGlobals, builtinsNs, [], .none)
  code : codeAt K a = true
  dflt : ((paramsAt i).defaults = [] ∧ (fnAt K a).map (·.defaults) = some .none) ∨ (i = 3 ∧ ((fnAt K a).map fun fd => ffAt K fd.defaults) = some true)
theorem FnChk.get {K : Frag} {h : Heap} {mg : Str → Option Value} {n : Str} {a : Addr} {i : Nat} (c : FnChk K n a i) (X : K.In h) (G : h.Ns mainGlobals mg) : ∃ a o fd, mg n = some (.ref a) ∧ h.get? a = some o ∧ o.data = .func fd ∧ FnIs h fd i :=
  fn_in X G c.name c.params c.body c.scope c.rest c.code c.dflt
/-- a name of the module that holds a datum -/
def glChk (K : Frag) (p : Str × D) : Bool := match nsIn K mainGlobals p.1 with
  | some (some v) => repIn K p.2 v
  | _ => false
theorem gl_of {prog : Program} {w : World} {K : Frag} {h : Heap} {mg : Str → Option Value} {p : Str × D} (X : K.In h) (G : h.Ns mainGlobals mg) (e : glChk K p = true) : ∃ v, mg p.1 = some v ∧ Rep prog w (fun a => h.get? a) v p.2 := by
  unfold glChk at e
  split at e
  · rename_i v hv
    exact ⟨v, mg_of X G hv, repIn_ok X _ _ e⟩
  · cases e
def biChk (K : Frag) (p : Str × Value) : Bool := (match nsIn K mainGlobals p.1 with | some none => true | _ => false) && !(p.1 == ("__name__" : Str))
theorem bi_of {K : Frag} {h : Heap} {mg mb : Str → Option Value} {p : Str × Value} (X : K.In h) (G : h.Ns mainGlobals mg) (hb : ∀ x : Str, x ≠ "__name__" → mb x = bootBuiltins x) (e : biChk K p = true) (e2 : bootBuiltins p.1 = some p.2) : mg p.1 = none ∧ mb p.1 = some p.2 := by
  unfold biChk at e
  simp only [Bool.and_eq_true, Bool.not_eq_true', beq_eq_false_iff_ne] at e
  obtain ⟨e0, e1⟩ := e
  split at e0
  · rename_i hv
    exact ⟨mg_none_of X G hv, (hb _ e1).trans e2⟩
  · cases e0
theorem boot_bi : ∀ p ∈ biTab, bootBuiltins p.1 = some p.2 := by
  intro p hp
  unfold biTab at hp
  simp only [List.mem_cons, List.not_mem_nil, or_false] at hp
  rcases hp with rfl | rfl | rfl | rfl | rfl | rfl | rfl | rfl | rfl | rfl | rfl <;> kernel_rfl
theorem base_of {prog : Program} {w : World} {K : Frag} {h : Heap} {mg mb : Str → Option Value} (X : K.In h) (G : h.Ns mainGlobals mg) (Gb : h.Ns builtinsNs mb) (hb : ∀ x : Str, x ≠ "__name__" → mb x = bootBuiltins x) (hn : h.NoLimit) (hdg : ∃ mc, h.Ns cStatics mc ∧ mc "sys.int_max_str_digits" = none)
    (c1 : (biTab.all (biChk K)) = true) (c2 : (glTab.all (glChk K)) = true) (c3 : ∀ p ∈ fnTab, ∃ a, FnChk K p.1 a p.2) : BaseOk prog w h (fun a => h.get? a) where
  glob := ⟨mg, mb, G, Gb, fun p hp => bi_of X G hb (List.all_eq_true.mp c1 p hp) (boot_bi p hp), fun p hp => let ⟨a, c⟩ := c3 p hp; c.get X G, fun p hp => gl_of X G (List.all_eq_true.mp c2 p hp)⟩
  nolimit := hn
  all := fun b o e => e
  digits := hdg
end Mine
namespace Mine
theorem fin_law {prog : Program} {w : World} {s : Shared} {a l : Addr} {o : Obj} {fd : FuncData} {xs : List Int} {P : Params} {R : Result → Shared → Prop} (hB : BaseOk prog w s.heap (fun a => s.heap.get? a)) (h1 : s.heap.get? a = some o) (h2 : o.data = .func fd) (h3 : FnIs s.heap fd 20)
    (hw : Well P s.heap (.ref l) (ofPy (.list (xs.map .int)))) (hc : xs.length ≤ 63) (fin : ∀ s', Kp s s' → R (.ok (.ret (.bool true))) s') : codeAny (model prog w) callerA (.call (.ref a) ⟨[.ref l], []⟩) R s := by
  refine law_call ⟨rfl, by show 1 + claimMargin + 5 ≤ recursionLimit; decide +kernel⟩ (by show 4 + 19 < 9900; decide) hB h1 h2 h3 (fun b o e => e) (fun b o e => e) ?_ hc fin
  rw [ofPy] at hw
  cases hw with
  | list g1 g2 => exact .list g1 rfl rfl (wellInts xs g2) (by rw [List.length_map]; exact Nat.le_trans hc (by decide))
end Mine
set_option maxHeartbeats 8000000 in
theorem PySem.Challenge.cw_fr0006_01_holds : PySem.Challenge.rw_fr0006_01.Holds := by
  w_on
  o_law
  k_head
  case hw => w_witness2
  intro w s₀ s₁ mg mb G Y fa o pm cd doc dV kV ho hd hcd hD hmg hg args vals as hpre hlay hrd hwl hlo
  have KX := kIn_of Y
  clear ho hd hcd hD
  refine Ground.open G ?_
  intro T B D TE TW
  have hlaw : ∃ a o fd, mg "law" = some (.ref a) ∧ s₁.heap.get? a = some o ∧ o.data = .func fd ∧ Mine.FnIs s₁.heap fd 20 :=
    Mine.FnChk.get (a := 106) ⟨by kernel_rfl, by kernel_rfl, by kernel_rfl, by kernel_rfl, by kernel_rfl, by kernel_rfl, .inl ⟨by kernel_rfl, by kernel_rfl⟩⟩ KX T.g
  obtain ⟨fa', of, fd, hm1, hf1, hf2, hf3⟩ := hlaw
  have hfa : some (Value.ref fa) = some (Value.ref fa') := hmg.symm.trans hm1
  have hbase : Mine.BaseOk PySem.Challenge.rw_fr0006_01.row.prog w s₁.heap (fun a => s₁.heap.get? a) := by
    refine Mine.base_of KX T.g T.b T.builtins T.nolimit T.nodigits (by kernel_rfl) (by kernel_rfl) ?_
    unfold Mine.fnTab
    refine List.forall_mem_cons.mpr ⟨⟨21, ⟨by kernel_rfl, by kernel_rfl, by kernel_rfl, by kernel_rfl, by kernel_rfl, by kernel_rfl, .inl ⟨by kernel_rfl, by kernel_rfl⟩⟩⟩, ?_⟩
    refine List.forall_mem_cons.mpr ⟨⟨29, ⟨by kernel_rfl, by kernel_rfl, by kernel_rfl, by kernel_rfl, by kernel_rfl, by kernel_rfl, .inr ⟨rfl, by kernel_rfl⟩⟩⟩, ?_⟩
    refine List.forall_mem_cons.mpr ⟨⟨36, ⟨by kernel_rfl, by kernel_rfl, by kernel_rfl, by kernel_rfl, by kernel_rfl, by kernel_rfl, .inl ⟨by kernel_rfl, by kernel_rfl⟩⟩⟩, ?_⟩
    refine List.forall_mem_cons.mpr ⟨⟨43, ⟨by kernel_rfl, by kernel_rfl, by kernel_rfl, by kernel_rfl, by kernel_rfl, by kernel_rfl, .inl ⟨by kernel_rfl, by kernel_rfl⟩⟩⟩, ?_⟩
    refine List.forall_mem_cons.mpr ⟨⟨50, ⟨by kernel_rfl, by kernel_rfl, by kernel_rfl, by kernel_rfl, by kernel_rfl, by kernel_rfl, .inl ⟨by kernel_rfl, by kernel_rfl⟩⟩⟩, ?_⟩
    refine List.forall_mem_cons.mpr ⟨⟨55, ⟨by kernel_rfl, by kernel_rfl, by kernel_rfl, by kernel_rfl, by kernel_rfl, by kernel_rfl, .inl ⟨by kernel_rfl, by kernel_rfl⟩⟩⟩, ?_⟩
    refine List.forall_mem_cons.mpr ⟨⟨60, ⟨by kernel_rfl, by kernel_rfl, by kernel_rfl, by kernel_rfl, by kernel_rfl, by kernel_rfl, .inl ⟨by kernel_rfl, by kernel_rfl⟩⟩⟩, ?_⟩
    refine List.forall_mem_cons.mpr ⟨⟨65, ⟨by kernel_rfl, by kernel_rfl, by kernel_rfl, by kernel_rfl, by kernel_rfl, by kernel_rfl, .inl ⟨by kernel_rfl, by kernel_rfl⟩⟩⟩, ?_⟩
    refine List.forall_mem_cons.mpr ⟨⟨70, ⟨by kernel_rfl, by kernel_rfl, by kernel_rfl, by kernel_rfl, by kernel_rfl, by kernel_rfl, .inl ⟨by kernel_rfl, by kernel_rfl⟩⟩⟩, ?_⟩
    refine List.forall_mem_cons.mpr ⟨⟨75, ⟨by kernel_rfl, by kernel_rfl, by kernel_rfl, by kernel_rfl, by kernel_rfl, by kernel_rfl, .inl ⟨by kernel_rfl, by kernel_rfl⟩⟩⟩, ?_⟩
    refine List.forall_mem_cons.mpr ⟨⟨80, ⟨by kernel_rfl, by kernel_rfl, by kernel_rfl, by kernel_rfl, by kernel_rfl, by kernel_rfl, .inl ⟨by kernel_rfl, by kernel_rfl⟩⟩⟩, ?_⟩
    refine List.forall_mem_cons.mpr ⟨⟨85, ⟨by kernel_rfl, by kernel_rfl, by kernel_rfl, by kernel_rfl, by kernel_rfl, by kernel_rfl, .inl ⟨by kernel_rfl, by kernel_rfl⟩⟩⟩, ?_⟩
    refine List.forall_mem_cons.mpr ⟨⟨101, ⟨by kernel_rfl, by kernel_rfl, by kernel_rfl, by kernel_rfl, by kernel_rfl, by kernel_rfl, .inl ⟨by kernel_rfl, by kernel_rfl⟩⟩⟩, ?_⟩
    exact fun _ h => nomatch h
  injection hfa with hfa
  injection hfa with hfa
  subst hfa
  clear hmg hm1
  wrow_args hpre hlay hrd hwl hlo
  all_goals first | refine callC_kw (enter_call ?_) | refine enter_call ?_ | refine callC_kw (enter_callW ?_) | refine enter_callW ?_
  refine codeAny_mono ?_ (fun _ _ g => GoodW.toG g)
  refine Mine.fin_law hbase hf1 hf2 hf3 (by assumption) (by omega) fun s' k => ?_
  obtain ⟨h', t', rfl, kk⟩ := k
  refine ⟨.inl ⟨_, .bool true, [], rfl, raisesW_false ?_, .bool _, ?_, fun _ => ⟨.nil, fun _ h => nomatch h⟩⟩, kk, rfl, hg⟩
  · wrow_none_raised
  · wrow_post
